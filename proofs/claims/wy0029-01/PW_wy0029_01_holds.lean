import PyProof.Rows.All
import Wide.All
import OpenK.AllK
import Wide.FinOn
import PySem.Challenge.RW_wy0029_01
set_option pp.deepTerms false
set_option pp.deepTerms.threshold 5
set_option compiler.extract_closed false
set_option Elab.async false
set_option maxRecDepth 100000
open PySem PySem.W PyProof.Rows
namespace Mine
section
open PySem.Sem (wp)
theorem zi (i : Int) : (0 : Int) + i * 1 = i := by rw [Int.mul_one, Int.zero_add]
theorem two {d : Nat} (h : d ≤ 2) : d = 0 ∨ d = 1 ∨ d = 2 := (Nat.lt_or_eq_of_le h).elim (fun h => (Nat.lt_or_eq_of_le (Nat.le_of_lt_succ h)).imp Nat.lt_one_iff.mp .inl) fun e => .inr (.inr e)
theorem mid {l r : Nat} (h : l < r) : l ≤ (l + r) / 2 ∧ (l + r) / 2 < r := ⟨(Nat.le_div_iff_mul_le (by decide)).mpr (by rw [Nat.mul_two]; exact Nat.add_le_add_left (Nat.le_of_lt h) l), (Nat.div_lt_iff_lt_mul (by decide)).mpr (by rw [Nat.mul_two]; exact Nat.add_lt_add_right h r)⟩
theorem midL {l r f : Nat} (h : l < r) (hf : r - l ≤ f + 1) : (l + r) / 2 - l ≤ f := Nat.le_of_lt_succ (Nat.lt_of_lt_of_le (Nat.sub_lt_sub_right (mid h).1 (mid h).2) hf)
theorem midR {l r f : Nat} (h : l < r) (hf : r - l ≤ f + 1) : r - ((l + r) / 2 + 1) ≤ f := Nat.le_of_lt_succ (Nat.lt_of_lt_of_le (Nat.sub_lt_sub_left h (Nat.lt_succ_of_le (mid h).1)) hf)
theorem sb0 {α : Type _} {l : List α} : ∀ p ∈ ([] : List α), p ∈ l := fun _ h => absurd h List.not_mem_nil
theorem sbs {α : Type _} {l : List α} : ∀ p ∈ l, p ∈ l := fun _ h => h
theorem sbc {α : Type _} {a : α} {l m : List α} (h : a ∈ l) (t : ∀ p ∈ m, p ∈ l) : ∀ p ∈ a :: m, p ∈ l := fun p hp => (List.mem_cons.mp hp).elim (fun e => e ▸ h) (t p)
theorem sba {α : Type _} {m n l : List α} (h : ∀ p ∈ m, p ∈ l) (t : ∀ p ∈ n, p ∈ l) : ∀ p ∈ m ++ n, p ∈ l := fun p hp => (List.mem_append.mp hp).elim (h p) (t p)
theorem sbt {α : Type _} {a : α} {l m : List α} (h : ∀ p ∈ m, p ∈ l) : ∀ p ∈ m, p ∈ a :: l := fun p hp => .tail _ (h p hp)
theorem sbr {α : Type _} {x l m : List α} (h : ∀ p ∈ m, p ∈ l) : ∀ p ∈ m, p ∈ x ++ l := fun p hp => List.mem_append_right _ (h p hp)
theorem sbl {α : Type _} {x l m : List α} (h : ∀ p ∈ m, p ∈ x) : ∀ p ∈ m, p ∈ x ++ l := fun p hp => List.mem_append_left _ (h p hp)
theorem sbn {h₀ h : Heap} {L : Addr} {l l' : List (Addr × Obj)} (N : News h₀ L h l) (hs : ∀ p ∈ l', p ∈ l) : News h₀ L h l' := fun p hp => N p (hs p hp)
theorem ac0 {α : Type _} {P : α → Prop} : ∀ p ∈ ([] : List α), P p := fun _ h => absurd h List.not_mem_nil
theorem ac {α : Type _} {P : α → Prop} {a : α} {l : List α} (h : P a) (t : ∀ p ∈ l, P p) : ∀ p ∈ a :: l, P p := fun p hp => (List.mem_cons.mp hp).elim (fun e => e ▸ h) (t p)
theorem aa {α : Type _} {P : α → Prop} {m n : List α} (h : ∀ p ∈ m, P p) (t : ∀ p ∈ n, P p) : ∀ p ∈ m ++ n, P p := fun p hp => (List.mem_append.mp hp).elim (h p) (t p)
theorem x0a4 {p0 p1 p2 p3 : Prop} {G : Prop} (h : p0 ∧ p1 ∧ p2 ∧ p3) (k : p0 → p1 → p2 → p3 → G) : G := k h.1 h.2.1 h.2.2.1 h.2.2.2
theorem x0a5 {p0 p1 p2 p3 p4 : Prop} {G : Prop} (h : p0 ∧ p1 ∧ p2 ∧ p3 ∧ p4) (k : p0 → p1 → p2 → p3 → p4 → G) : G := k h.1 h.2.1 h.2.2.1 h.2.2.2.1 h.2.2.2.2
theorem x1a3 {α : Sort _} {p0 p1 p2 : α → Prop} {G : Prop} (h : ∃ a, p0 a ∧ p1 a ∧ p2 a) (k : ∀ a, p0 a → p1 a → p2 a → G) : G := h.elim fun a h => k a h.1 h.2.1 h.2.2
theorem x1a4 {α : Sort _} {p0 p1 p2 p3 : α → Prop} {G : Prop} (h : ∃ a, p0 a ∧ p1 a ∧ p2 a ∧ p3 a) (k : ∀ a, p0 a → p1 a → p2 a → p3 a → G) : G := h.elim fun a h => k a h.1 h.2.1 h.2.2.1 h.2.2.2
theorem x1a6 {α : Sort _} {p0 p1 p2 p3 p4 p5 : α → Prop} {G : Prop} (h : ∃ a, p0 a ∧ p1 a ∧ p2 a ∧ p3 a ∧ p4 a ∧ p5 a) (k : ∀ a, p0 a → p1 a → p2 a → p3 a → p4 a → p5 a → G) : G := h.elim fun a h => k a h.1 h.2.1 h.2.2.1 h.2.2.2.1 h.2.2.2.2.1 h.2.2.2.2.2
theorem x1a8 {α : Sort _} {p0 p1 p2 p3 p4 p5 p6 p7 : α → Prop} {G : Prop} (h : ∃ a, p0 a ∧ p1 a ∧ p2 a ∧ p3 a ∧ p4 a ∧ p5 a ∧ p6 a ∧ p7 a) (k : ∀ a, p0 a → p1 a → p2 a → p3 a → p4 a → p5 a → p6 a → p7 a → G) : G := h.elim fun a h => k a h.1 h.2.1 h.2.2.1 h.2.2.2.1 h.2.2.2.2.1 h.2.2.2.2.2.1 h.2.2.2.2.2.2.1 h.2.2.2.2.2.2.2
theorem x2a2 {α β : Sort _} {p0 p1 : α → β → Prop} {G : Prop} (h : ∃ a b, p0 a b ∧ p1 a b) (k : ∀ a b, p0 a b → p1 a b → G) : G := h.elim fun a h => h.elim fun b h => k a b h.1 h.2
theorem x2a3 {α β : Sort _} {p0 p1 p2 : α → β → Prop} {G : Prop} (h : ∃ a b, p0 a b ∧ p1 a b ∧ p2 a b) (k : ∀ a b, p0 a b → p1 a b → p2 a b → G) : G := h.elim fun a h => h.elim fun b h => k a b h.1 h.2.1 h.2.2
theorem x2a4 {α β : Sort _} {p0 p1 p2 p3 : α → β → Prop} {G : Prop} (h : ∃ a b, p0 a b ∧ p1 a b ∧ p2 a b ∧ p3 a b) (k : ∀ a b, p0 a b → p1 a b → p2 a b → p3 a b → G) : G := h.elim fun a h => h.elim fun b h => k a b h.1 h.2.1 h.2.2.1 h.2.2.2
theorem x3a2 {α β γ : Sort _} {p0 p1 : α → β → γ → Prop} {G : Prop} (h : ∃ a b c, p0 a b c ∧ p1 a b c) (k : ∀ a b c, p0 a b c → p1 a b c → G) : G := h.elim fun a h => h.elim fun b h => h.elim fun c h => k a b c h.1 h.2
theorem x3a3 {α β γ : Sort _} {p0 p1 p2 : α → β → γ → Prop} {G : Prop} (h : ∃ a b c, p0 a b c ∧ p1 a b c ∧ p2 a b c) (k : ∀ a b c, p0 a b c → p1 a b c → p2 a b c → G) : G := h.elim fun a h => h.elim fun b h => h.elim fun c h => k a b c h.1 h.2.1 h.2.2
theorem x3a4 {α β γ : Sort _} {p0 p1 p2 p3 : α → β → γ → Prop} {G : Prop} (h : ∃ a b c, p0 a b c ∧ p1 a b c ∧ p2 a b c ∧ p3 a b c) (k : ∀ a b c, p0 a b c → p1 a b c → p2 a b c → p3 a b c → G) : G := h.elim fun a h => h.elim fun b h => h.elim fun c h => k a b c h.1 h.2.1 h.2.2.1 h.2.2.2
theorem x3a6 {α β γ : Sort _} {p0 p1 p2 p3 p4 p5 : α → β → γ → Prop} {G : Prop} (h : ∃ a b c, p0 a b c ∧ p1 a b c ∧ p2 a b c ∧ p3 a b c ∧ p4 a b c ∧ p5 a b c) (k : ∀ a b c, p0 a b c → p1 a b c → p2 a b c → p3 a b c → p4 a b c → p5 a b c → G) : G := h.elim fun a h => h.elim fun b h => h.elim fun c h => k a b c h.1 h.2.1 h.2.2.1 h.2.2.2.1 h.2.2.2.2.1 h.2.2.2.2.2
theorem x4a1 {α β γ δ : Sort _} {p0 : α → β → γ → δ → Prop} {G : Prop} (h : ∃ a b c d, p0 a b c d) (k : ∀ a b c d, p0 a b c d → G) : G := h.elim fun a h => h.elim fun b h => h.elim fun c h => h.elim fun d h => k a b c d h
theorem x4a2 {α β γ δ : Sort _} {p0 p1 : α → β → γ → δ → Prop} {G : Prop} (h : ∃ a b c d, p0 a b c d ∧ p1 a b c d) (k : ∀ a b c d, p0 a b c d → p1 a b c d → G) : G := h.elim fun a h => h.elim fun b h => h.elim fun c h => h.elim fun d h => k a b c d h.1 h.2
theorem x4a4 {α β γ δ : Sort _} {p0 p1 p2 p3 : α → β → γ → δ → Prop} {G : Prop} (h : ∃ a b c d, p0 a b c d ∧ p1 a b c d ∧ p2 a b c d ∧ p3 a b c d) (k : ∀ a b c d, p0 a b c d → p1 a b c d → p2 a b c d → p3 a b c d → G) : G := h.elim fun a h => h.elim fun b h => h.elim fun c h => h.elim fun d h => k a b c d h.1 h.2.1 h.2.2.1 h.2.2.2
theorem x4a5 {α β γ δ : Sort _} {p0 p1 p2 p3 p4 : α → β → γ → δ → Prop} {G : Prop} (h : ∃ a b c d, p0 a b c d ∧ p1 a b c d ∧ p2 a b c d ∧ p3 a b c d ∧ p4 a b c d) (k : ∀ a b c d, p0 a b c d → p1 a b c d → p2 a b c d → p3 a b c d → p4 a b c d → G) : G := h.elim fun a h => h.elim fun b h => h.elim fun c h => h.elim fun d h => k a b c d h.1 h.2.1 h.2.2.1 h.2.2.2.1 h.2.2.2.2
theorem x5a2 {α β γ δ ε : Sort _} {p0 p1 : α → β → γ → δ → ε → Prop} {G : Prop} (h : ∃ a b c d e, p0 a b c d e ∧ p1 a b c d e) (k : ∀ a b c d e, p0 a b c d e → p1 a b c d e → G) : G := h.elim fun a h => h.elim fun b h => h.elim fun c h => h.elim fun d h => h.elim fun e h => k a b c d e h.1 h.2
theorem x6a4 {α β γ δ ε ζ : Sort _} {p0 p1 p2 p3 : α → β → γ → δ → ε → ζ → Prop} {G : Prop} (h : ∃ a b c d e f, p0 a b c d e f ∧ p1 a b c d e f ∧ p2 a b c d e f ∧ p3 a b c d e f) (k : ∀ a b c d e f, p0 a b c d e f → p1 a b c d e f → p2 a b c d e f → p3 a b c d e f → G) : G := h.elim fun a h => h.elim fun b h => h.elim fun c h => h.elim fun d h => h.elim fun e h => h.elim fun f h => k a b c d e f h.1 h.2.1 h.2.2.1 h.2.2.2
theorem x6a5 {α β γ δ ε ζ : Sort _} {p0 p1 p2 p3 p4 : α → β → γ → δ → ε → ζ → Prop} {G : Prop} (h : ∃ a b c d e f, p0 a b c d e f ∧ p1 a b c d e f ∧ p2 a b c d e f ∧ p3 a b c d e f ∧ p4 a b c d e f) (k : ∀ a b c d e f, p0 a b c d e f → p1 a b c d e f → p2 a b c d e f → p3 a b c d e f → p4 a b c d e f → G) : G := h.elim fun a h => h.elim fun b h => h.elim fun c h => h.elim fun d h => h.elim fun e h => h.elim fun f h => k a b c d e f h.1 h.2.1 h.2.2.1 h.2.2.2.1 h.2.2.2.2
theorem x7a1 {α β γ δ ε ζ η : Sort _} {p0 : α → β → γ → δ → ε → ζ → η → Prop} {G : Prop} (h : ∃ a b c d e f g, p0 a b c d e f g) (k : ∀ a b c d e f g, p0 a b c d e f g → G) : G := h.elim fun a h => h.elim fun b h => h.elim fun c h => h.elim fun d h => h.elim fun e h => h.elim fun f h => h.elim fun g h => k a b c d e f g h
theorem x7a5 {α β γ δ ε ζ η : Sort _} {p0 p1 p2 p3 p4 : α → β → γ → δ → ε → ζ → η → Prop} {G : Prop} (h : ∃ a b c d e f g, p0 a b c d e f g ∧ p1 a b c d e f g ∧ p2 a b c d e f g ∧ p3 a b c d e f g ∧ p4 a b c d e f g) (k : ∀ a b c d e f g, p0 a b c d e f g → p1 a b c d e f g → p2 a b c d e f g → p3 a b c d e f g → p4 a b c d e f g → G) : G := h.elim fun a h => h.elim fun b h => h.elim fun c h => h.elim fun d h => h.elim fun e h => h.elim fun f h => h.elim fun g h => k a b c d e f g h.1 h.2.1 h.2.2.1 h.2.2.2.1 h.2.2.2.2
theorem x7a6 {α β γ δ ε ζ η : Sort _} {p0 p1 p2 p3 p4 p5 : α → β → γ → δ → ε → ζ → η → Prop} {G : Prop} (h : ∃ a b c d e f g, p0 a b c d e f g ∧ p1 a b c d e f g ∧ p2 a b c d e f g ∧ p3 a b c d e f g ∧ p4 a b c d e f g ∧ p5 a b c d e f g) (k : ∀ a b c d e f g, p0 a b c d e f g → p1 a b c d e f g → p2 a b c d e f g → p3 a b c d e f g → p4 a b c d e f g → p5 a b c d e f g → G) : G := h.elim fun a h => h.elim fun b h => h.elim fun c h => h.elim fun d h => h.elim fun e h => h.elim fun f h => h.elim fun g h => k a b c d e f g h.1 h.2.1 h.2.2.1 h.2.2.2.1 h.2.2.2.2.1 h.2.2.2.2.2
theorem x8a4 {α β γ δ ε ζ η θ : Sort _} {p0 p1 p2 p3 : α → β → γ → δ → ε → ζ → η → θ → Prop} {G : Prop} (h : ∃ a b c d e f g i, p0 a b c d e f g i ∧ p1 a b c d e f g i ∧ p2 a b c d e f g i ∧ p3 a b c d e f g i) (k : ∀ a b c d e f g i, p0 a b c d e f g i → p1 a b c d e f g i → p2 a b c d e f g i → p3 a b c d e f g i → G) : G := h.elim fun a h => h.elim fun b h => h.elim fun c h => h.elim fun d h => h.elim fun e h => h.elim fun f h => h.elim fun g h => h.elim fun i h => k a b c d e f g i h.1 h.2.1 h.2.2.1 h.2.2.2
theorem x8a5 {α β γ δ ε ζ η θ : Sort _} {p0 p1 p2 p3 p4 : α → β → γ → δ → ε → ζ → η → θ → Prop} {G : Prop} (h : ∃ a b c d e f g i, p0 a b c d e f g i ∧ p1 a b c d e f g i ∧ p2 a b c d e f g i ∧ p3 a b c d e f g i ∧ p4 a b c d e f g i) (k : ∀ a b c d e f g i, p0 a b c d e f g i → p1 a b c d e f g i → p2 a b c d e f g i → p3 a b c d e f g i → p4 a b c d e f g i → G) : G := h.elim fun a h => h.elim fun b h => h.elim fun c h => h.elim fun d h => h.elim fun e h => h.elim fun f h => h.elim fun g h => h.elim fun i h => k a b c d e f g i h.1 h.2.1 h.2.2.1 h.2.2.2.1 h.2.2.2.2
noncomputable def safeC : Code → Bool
 | .builtin id _ => !(["bytearray.__contains__", "bytearray.__mod__", "bytearray.__rmod__", "_struct.pack_into.held", "bytearray.find.held"].contains id || PySem.Builtin.Bytes.decodersThatHold.contains id)
 | _ => true
noncomputable def CleanB (Γ : Ctx) : Prop := ∀ q ∈ Γ.below, safeC q.1 = true
noncomputable def wpC {α : Type} (M : Model) (A : Around) (t : Sem α) (Q : α → Shared → Prop) (E : Value → Shared → Prop) (s : Shared) : Prop :=
 ∀ Γ p, Γ.In A → CleanB Γ → safeC Γ.code = true → wp M Γ t (fun a _ s' => Q a s') (fun e _ s' => E e s') p s
noncomputable def codeC (M : Model) (A : Around) (c : Code) (R : Result → Shared → Prop) (s : Shared) : Prop := ∀ Γ p, Γ.code = c → Γ.Below A → CleanB Γ → wpCode M Γ R p s
section
variable {α β : Type} {M : Model} {A : Around} {E : Value → Shared → Prop} {s : Shared}
theorem wpC_of {t : Sem α} {Q : α → Shared → Prop} (h : wpAny M A t Q E s) : wpC M A t Q E s := fun Γ p hΓ _ _ => h Γ p hΓ
theorem wpC_mono {t : Sem α} {Q Q' : α → Shared → Prop} {E' : Value → Shared → Prop} (h : wpC M A t Q E s) (hQ : ∀ a s, Q a s → Q' a s) (hE : ∀ e s, E e s → E' e s) : wpC M A t Q' E' s :=
 fun Γ p hΓ k1 k2 => Sem.wp_mono M Γ t (fun a _ s => hQ a s) (fun e _ s => hE e s) p s (h Γ p hΓ k1 k2)
theorem wpC_bind {m : Sem α} {f : α → Sem β} {Q : β → Shared → Prop} (h : wpC M A m (fun a s' => wpC M A (f a) Q E s') E s) : wpC M A (m >>= f) Q E s := fun Γ p hΓ k1 k2 => by
 rw [Sem.wp_bind']
 exact Sem.wp_mono M Γ m (fun a p' s' h' => h' Γ p' hΓ k1 k2) (fun _ _ _ h' => h') p s (h Γ p hΓ k1 k2)
theorem wpC_then {m : Sem α} {f : α → Sem β} {Q : β → Shared → Prop} (h : wpAny M A m (fun a s' => wpC M A (f a) Q E s') E s) : wpC M A (m >>= f) Q E s := wpC_bind (wpC_of h)
theorem wpC_pure {a : α} {Q : α → Shared → Prop} (h : Q a s) : wpC M A (pure a) Q E s := wpC_of (wpAny_pure h)
theorem wpC_onRaise {m : Sem α} {k : Value → Sem Unit} {Q : α → Shared → Prop} (h : wpC M A m Q (fun e s' => wpC M A (k e) (fun _ s'' => E e s'') E s') s) : wpC M A (m.onRaise k) Q E s := fun Γ p hΓ k1 k2 => by
 rw [Sem.wp_onRaise]
 exact Sem.wp_mono M Γ m (fun _ _ _ h' => h') (fun e p' s' h' => h' Γ p' hΓ k1 k2) p s (h Γ p hΓ k1 k2)
theorem wpC_holding {vs : List Value} {m : Sem α} {Q : α → Shared → Prop} (h : wpC M A m Q E s) : wpC M A (holding vs m) Q E s := fun Γ p hΓ k1 k2 => by rw [Sem.wp_holding]; exact h Γ p hΓ k1 k2
theorem wpC_runValue {c : Code} {Q : Value → Shared → Prop} (hc : codeC M A c (fun r s' => match r with | .ok (.ret v) => Q v s' | .ok _ => False | .error e => E e s') s) : wpC M A (runValue c) Q E s := fun Γ p hΓ k1 k2 => by
 rw [Sem.wp_runValue]
 exact hc _ p rfl (hΓ.enter c none p (by intro x; cases x)) fun q hq => by
   rcases List.mem_cons.mp hq with rfl | hq
   · exact k2
   · exact k1 q hq
theorem wpC_call {f : Value} {pos : List Value} {kw : List (Str × Value)} {Q : Value → Shared → Prop} (hc : codeC M A (.call f ⟨pos, kw⟩) (fun r s' => match r with | .ok (.ret v) => Q v s' | .ok _ => False | .error e => E e s') s) : wpC M A (call f pos kw) Q E s := wpC_runValue hc
theorem codeC_of_tree {c : Code} {R : Result → Shared → Prop} (hs : safeC c = true) (h : wpC M (A.under c) (M.den c) (fun fin s' => match fin with | .done f => R (.ok f) s' | .again c' => c'.quiet = true ∧ codeC M A c' R s')
     (fun e s' => R (.error e) s') s) : codeC M A c R s := fun Γ p hc hΓ k1 => by
 rw [wpCode_iff_wp, hc]
 refine Sem.wp_mono M Γ _ (fun fin p' s' h' => ?_) (fun _ _ _ h' => h') p s (h Γ p (hc ▸ hΓ.in) k1 (by rw [hc]; exact hs))
 cases fin with
 | done f => exact h'
 | again c' => exact ⟨h'.1, h'.2 (Γ.goto c') p' rfl (hΓ.goto c') k1⟩
theorem wpC_execs_cons {st : Stmt} {rest : List Stmt} {env : Env} {Q : Flow → Shared → Prop} (h : wpC M A (exec st env) (fun f s' => match f with | .next => wpC M A (execs rest env) Q E s' | f => Q f s') E s) : wpC M A (execs (st :: rest) env) Q E s := fun Γ p hΓ k1 k2 => by
 rw [execs_cons, Sem.wp_bind']
 refine Sem.wp_mono M Γ _ (fun f p' s' h' => ?_) (fun _ _ _ h' => h') _ _ (h Γ p hΓ k1 k2)
 cases f with
 | next => exact h' Γ p' hΓ k1 k2
 | _ => simp only [Sem.wp_pure']; exact h'
end
section
variable {prog : Program} {w : World} {A : Around} {R : Result → Shared → Prop} {s : Shared}
theorem codeC_func {body : List Stmt} {env : Env} (h : wpC (model prog w) (A.deeper env) (execs body env) (fun f s' => R (.ok (.ret (match f with | .ret v => v | _ => .none))) s')
     (fun e s' => wpAny (model prog w) (A.deeper env) (leaving env e) (fun _ s'' => R (.error e) s'') (fun e' s'' => R (.error e') s'') s') s) : codeC (model prog w) A (.func body env) R s := by
 refine codeC_of_tree rfl ?_
 show wpC _ (A.deeper env) (do point; match ← (execs body env).onRaise (leaving env) with | .ret v => ret v | _ => ret .none) _ _ s
 refine wpC_then (wpAny_point (wpC_bind (wpC_onRaise (wpC_mono h (fun f s' h' => ?_) fun _ _ h' => wpC_of h'))))
 cases f <;> exact wpC_pure h'
theorem codeC_call_function {a : Addr} {args : Args} {o : Obj} {fd : FuncData} {body : List Stmt} (hroom : A.depth < recursionLimit) (ho : s.heap.get? a = some o) (hd' : o.data = .func fd) (hco : fd.scope.isCoroutine = false) (hgen : fd.scope.isGenerator = false) (hbody : fd.body = .stmts body) (hcd : s.heap.CodeRec fd.code fd.qualname)
   (h : wpAny (model prog w) A.in1 (bindArgs fd args) (fun binds s₁ => wpAny (model prog w) A.in1 (newFunctionEnv fd.scope fd.globals fd.closure binds (fd.qualname ++ ".<locals>.") (some a) fd.code none fd.builtins)
       (fun env s₂ => s₂.heap.NoLimit ∧ codeC (model prog w) A (.func body env) R s₂) (fun e s' => R (.error e) s') s₁) (fun e s' => R (.error e) s') s) : codeC (model prog w) A (.call (.ref a) args) R s := by
 refine codeC_of_tree rfl ?_
 show wpC _ A.in1 (callAny (.ref a) args) _ _ s
 show wpC _ A.in1 (load a >>= _) _ _ s
 refine wpC_then (wpAny_load ho ?_)
 rw [hd']
 refine x4a4 hcd ?_
 intro c oc vs tq hc hoc hdc hq
 show wpC _ A.in1 (callFunction a fd args) _ _ s
 unfold callFunction
 rw [hgen, hco, hbody, hc]
 rw [hc] at h
 refine wpC_then (m := field (.ref c) 1) (wpAny_field hoc hdc hq (wpC_then (wpAny_pure ?_)))
 exact wpC_then (wpAny_mono h (fun binds s₁ h₁ => wpC_then (wpAny_mono h₁ (fun env s₂ h₂ => wpC_then (wpAny_enterFrame h₂.1 hroom (wpC_pure (And.intro rfl h₂.2)))) fun _ _ h' => h')) fun _ _ h' => h')
theorem codeC_call_def {a : Addr} {o : Obj} {fd : FuncData} {body : List Stmt} {args : Args} {binds : List (Str × Value)}
   (hroom : A.depth < recursionLimit) (ho : s.heap.get? a = some o) (hdata : o.data = .func fd) (hlim : s.heap.NoLimit) (hcd : s.heap.CodeRec fd.code fd.qualname) (hbody : fd.body = .stmts body) (hbind : BindsTo s fd args binds)
   (hcell : ∀ x ∈ fd.scope.names, x.2 ≠ .cell) (hloc : ∀ x ∈ binds, fd.scope.names.lookup x.1 = some .local)
   (h : ∀ h₀, h₀.Ns s.heap.objs.size (fun x => binds.reverse.lookup x) → (∀ b o, s.heap.get? b = some o → h₀.get? b = some o) →
     wpC (model prog w) (A.deeper (callEnv fd s.heap.objs.size a)) (execs body (callEnv fd s.heap.objs.size a)) (fun f s' => R (.ok (.ret (match f with | .ret v => v | _ => .none))) s')
       (fun e s' => wpAny (model prog w) (A.deeper (callEnv fd s.heap.objs.size a)) (leaving (callEnv fd s.heap.objs.size a) e) (fun _ s'' => R (.error e) s'') (fun e' s'' => R (.error e') s'') s')
       { s with heap := h₀, toks := s.toks + binds.length })
   (hco : fd.scope.isCoroutine = false := by rfl) (hgen : fd.scope.isGenerator = false := by rfl) (hk : fd.scope.kind = .function := by rfl) : codeC (model prog w) A (.call (.ref a) args) R s := by
 refine codeC_call_function hroom ho hdata hco hgen hbody hcd (hbind _ _ _ _ ?_)
 refine wpAny_newFunctionEnv hcell hloc (fun h₀ hns₀ hsb₀ => ⟨hlim.fresh _ hsb₀, codeC_func (h h₀ hns₀ fun b o e => ?_)⟩) hk
 exact hsb₀.extBut b o (Nat.ne_of_lt (Heap.lt_size e)) (Heap.get?_push_of_some _ e)
end
theorem caller_clean : CleanB (⟨.builtin "claim.caller" {}, none, none, [], none⟩ : Ctx) := fun _ h => nomatch h
theorem caller_safe : safeC (.builtin "claim.caller" {}) = true := by decide +kernel
noncomputable abbrev WalkC (q : Program) (loose : List Str) (XP : (Str → Option Value) → Heap → Prop) (YP : World → Heap → Prop) (r : RowW) (d : DefRec) (kwd : List (Str × Expr)) : Prop :=
 ∀ (w : World) (s₀ s₁ : Shared) (mg mb : Str → Option Value), Ground q loose r.records XP w s₀ mg mb s₁.heap → YP w s₁.heap → ∀ (a : Addr) (o : Obj) (pm cd doc dV kV : Value), s₁.heap.get? a = some o →
   o.data = .func { Calls.docDef d.name d.params d.body d.scope pm cd doc with defaults := dV, kwdefaults := kV } → s₁.heap.CodeRec cd d.name → Dflts mg s₁.heap d.params kwd dV kV → mg d.name = some (.ref a) → s₁.gens = #[] →
   ∀ (args : List WData) (vals : List Value) (as : List Addr), r.claim.pre args = true → WData.layableAll args = true → ReadsAllW r.records (classAt s₀.heap) s₁.heap vals args as → WellAll w.params s₁.heap vals args → (∀ a ∈ as, (a == sysModules) = false) →
     wpC (model r.prog w) callerA (call (.ref a) vals) (fun v s' => GoodWG r.claim (classAt s₀.heap) (ExcName.means s₀.heap) args s₁ (.ok (.ret v)) s')
       (fun e s' => GoodWG r.claim (classAt s₀.heap) (ExcName.means s₀.heap) args s₁ (.error e) s') s₁
theorem PySem.W.holds_open {r : OpenRow} {q : Program} {loose : List Str} {Xt : Shared → Bool} {XP : (Str → Option Value) → Heap → Prop} {α : Type} {Yf : Shared → α} {Ya : World → α} {YP : World → Heap → Prop} {d : DefRec} {kwd : List (Str × Expr)} {N : Nat}
   (left : ∀ w : World, (openEnds treeTable r.prog w N).map (fun s => (openSeen q loose (importedModules r.prog.main.body) Xt true s, Yf s)) = some (openGood q loose, Ya w)) (hY : ∀ w s, Yf s = Ya w → YP w s.heap) (hYk : ∀ w h h', YP w h → (∀ b o, h.get? b = some o → h'.get? b = some o) → YP w h')
   (hX : ∀ s, Xt s = true → XP (s.heap.nsMap mainGlobals) s.heap) (hXk : ∀ mg h h', XP mg h → (∀ b o, h.get? b = some o → h'.get? b = some o) → XP mg h')
   (hdef : defOf q r.name = some (d, kwd)) (hp : r.prog.theDef r.name = some (d.params, d.body, d.scope)) (hk : kwWritten? d.params.kwonlyargs d.params.kw_defaults = some kwd) (hRf : ∀ s, Xt s = true → RecFacts r.records s.heap) (hwr : (!r.writes || r.records.isEmpty) = true)
   (k1 : r.wellSaid = true) (ok : (chainsOk q && opensWell r.prog && (frees r.toRowW && r.within.isEmpty)) = true) (hb : r.prog.bare) (hw : r.toRowW.promised)
   (walk : WalkC q loose XP YP r.toRowW d kwd) : r.Holds := by
 refine ⟨k1, hw, ?_⟩
 have ok0 := ok
 obtain ⟨ok, k5⟩ := Bool.and_eq_true_iff.mp ok
 obtain ⟨hch, o1⟩ := Bool.and_eq_true_iff.mp ok
 obtain ⟨k5, k6⟩ := Bool.and_eq_true_iff.mp k5
 refine x0a5 (frees_parts k5) ?_
 intro hsame hu ha hap hm
 refine ⟨⟨hb, o1, by show r.toRowW.makers.map _ = []; rw [hm]; rfl⟩, hw.witness, fun w => ⟨(LeftO.behind (g0 := true) left hX hch w).1, fun s' hs' => ?_⟩⟩
 refine x1a3 ((LeftO.behind (g0 := true) left (XP := fun mg h => XP mg h ∧ RecFacts r.records h) (fun s hs => ⟨hX s hs, hRf s hs⟩) hch w).2 s' hs') ?_
 intro s₀ hf hg0 hq
 refine x1a6 hq ?_
 intro s hT hz hgens hg GG y
 have G0 : Ground q loose [] XP w s (s.heap.nsMap mainGlobals) (s.heap.nsMap builtinsNs) s.heap := ⟨GG.T, GG.B, GG.D, GG.TE, GG.TD, GG.W, GG.X.1, GG.cls, GG.has, GG.apart, GG.once, GG.K⟩
 have RF := GG.X.2
 refine ⟨s₀, hf, hg0, s, hT, fun n hn => ?_, RF.1, RF.2.1, ?_⟩
 · obtain rfl : n = r.name := by split at hn <;> simp_all
   exact pinned_of_view hg G0 hdef hp hk
 have hgens : s.gens = #[] := Array.eq_empty_of_size_eq_zero (beq_iff_eq.mp hgens)
 have G : Ground q loose r.records XP w s _ _ s.heap := RF.ground G0
 intro args hpre hlay ord hord
 obtain ⟨⟨vs, s₁⟩, hlaid⟩ := Option.isSome_iff_exists.mp (layAllW_isSome (P := w.params) (ord := ord) G.has args r.toRowW.args s (pre_splitW hpre).1)
 have keeps := layAllW_keeps _ _ _ hlaid
 have hal := layAllW_rest _ _ _ hlaid
 refine x1a3 (reads_layAllW hord _ _ _ hlaid hlay s₁.heap (fun _ _ e => e)) ?_
 intro as hrd hin hold
 have L : Laid r.records w s s₁ args vs as := ⟨⟨ord, hord, hlaid⟩, hrd, hin, hold, keeps, hal.1.trans hgens, hal.2.2.1⟩
 have G₁ := G.keeps hXk keeps
 refine x7a5 (G₁.fn hdef) ?_
 intro a o pm cd doc dV kV h1 h2 h3 h4 h5
 have h := walk w s s₁ _ _ G₁ (hYk _ _ _ (hY w s y) keeps) a o pm cd doc dV kV h2 h3 h4 h5 (defOf_name hdef ▸ h1) L.gens args vs as hpre hlay L.reads L.well (L.low G.low)
 have hi := ident_freeW hu ha hap
 have hwi : r.toRowW.claim.within = [] := List.isEmpty_iff.mp k6
 have tree : wpC (model r.prog w) callerA (do match ← nsGet mainNs r.name with
     | some f => do ret (← PySem.call f vs)
     | none => unsupported "claim.caller:no-such-global") (fun fin s' => ∃ f, fin = .done f ∧ GoodWG r.toRowW.claim (classAt s.heap) (ExcName.means s.heap) args s₁ (.ok f) s')
       (fun e s' => GoodWG r.toRowW.claim (classAt s.heap) (ExcName.means s.heap) args s₁ (.error e) s') s₁ :=
   wpC_then (wpAny_nsGet G₁.T.g (by rw [h1]; exact wpC_bind (wpC_mono h (fun v s' g => wpC_pure ⟨_, rfl, g⟩) fun _ _ g => g)))
 have done : Sem.wp (model r.prog w) ⟨.builtin "claim.caller" {}, none, none, [], none⟩ _ (Sem.finPost (model r.prog w) ⟨.builtin "claim.caller" {}, none, none, [], none⟩ fun rr s' => GoodWG r.toRowW.claim (classAt s.heap) (ExcName.means s.heap) args s₁ rr s' ∧ leftWithCleanup s'.gens = false)
     (fun e _ s' => GoodWG r.toRowW.claim (classAt s.heap) (ExcName.means s.heap) args s₁ (.error e) s' ∧ leftWithCleanup s'.gens = false) default s₁ :=
   Sem.wp_mono _ _ _ (fun fin p' s' ⟨f, e, g⟩ => by subst e; exact ⟨g, leftWithCleanup_false_of_bare (g.laid (c := r.toRowW.claim) hsame hwi hi L).2.2⟩) (fun e p' s' g => ⟨g, leftWithCleanup_false_of_bare (g.laid (c := r.toRowW.claim) hsame hwi hi L).2.2⟩) _ _ (tree _ default caller_in caller_clean caller_safe)
 refine x4a4 (wp_halts_full (M := model r.prog w) (Shared.asleep_of_life hal.2.2.2 hz) done) ?_
 intro k rr t' t'' hsched hrun hfo hR
 obtain ⟨eh, _, _, eo, _⟩ := Shared.forget_eq hfo
 have z := hR.laid (c := r.toRowW.claim) hsame hwi hi L
 have hcase := z.1.congr eh
 have hos := z.2.1
 rw [← eo] at hos
 have hlife : t''.heap.life = s.heap.life := (runN_life _ _ _ hrun).trans hal.2.2.2
 refine ⟨vs, s₁, hlaid, k, _, t'', hsched, ?_, (fun _ i x hx => by rw [hgens] at hx; simp at hx), fun q => ⟨eh ▸ namesKept_of hT hg _ keeps hR.2.1.old, noTable hwr q⟩, by rw [hlife], Shared.rest_eq hos⟩
 rcases hcase with ⟨v, rfl, d1, d2, d3, d4, d5⟩ | ⟨e, ob, cls, rfl, d1, d2, d3, d4, d5⟩
 · exact .inl ⟨v, rfl, d1, d2, d3, fun b o y _ => d4 b o y, d5⟩
 · exact .inr ⟨e, ob, cls, rfl, d1, d2, d3, d4, fun b o y _ => d5 b o y⟩
end
section
set_option maxRecDepth 100000 in
theorem row_well : PySem.Challenge.rw_wy0029_01.wellSaid = true := by
 unfold OpenLaw.wellSaid OpenRow.wellSaid OpenRow.partSaid looksOpen
 repeat' (with_reducible refine look_both ?_ ?_)
 all_goals decide +kernel
local macro_rules | `(tactic| o_law) => `(tactic| refine PySem.W.holds_law Mine.row_well fun said => ?_)
set_option maxRecDepth 100000 in
set_option maxHeartbeats 8000000 in
open_top hd for PySem.Challenge.rw_wy0029_01
end
theorem walk_plain : True := by
 w_top off
 trivial
section
inductive Cx (w : World) (d : Nat) (A : Around) (L : Addr) (h₀ : Heap) : Prop
 | mk {env : Env} {outer : List Env} {A₀ : Around} {base : Heap} {p : Program} {loose : List Str} {mean : ExcName → Option Value} {mg mb : Str → Option Value} (depth : A.depth ≤ d) (units : A.units ≤ 10 * d)
   (hA : A.frames = some (env :: outer)) (hf : env.frame = some L) (hk : env.scope.kind = .function) (B : Below A₀ base outer h₀) (X : (Mine.hd.heap_1 w.params).In h₀) (c1 : CodeHd h₀ 125 123) (c2 : CodeHd h₀ 108 104) (T : Top p loose mean mg mb h₀)
noncomputable abbrev zA (d : Nat) (hdl : Option Value) (gd : Option (List Code)) (env : Env) (outer : List Env) : Around := { handled := hdl, depth := d, frames := some (env :: outer), guards := gd, units := 10 * d }
theorem lift_around {α : Type} {M : Model} {d : Nat} {A : Around} {t : Sem α} {Q : α → Shared → Prop} {E : Value → Shared → Prop} {s : Shared} {env : Env} {outer : List Env}
   (hd : A.depth ≤ d) (hu : A.units ≤ 10 * d) (hf : A.frames = some (env :: outer))
   (h : wpAny M (zA d A.handled A.guards env outer) t Q E s) : wpAny M A t Q E s := fun Γ p hΓ =>
 h Γ p ⟨hΓ.1, Nat.le_trans hΓ.2.1 hd, fun l hl => hΓ.2.2.1 l (hf.trans hl), hΓ.2.2.2.1, Nat.le_trans hΓ.2.2.2.2 hu⟩
theorem ltAll {d e : Addr} : ∀ {l : List (Addr × Obj)}, AllLt d l → @LE.le Nat _ d e → ∀ p ∈ l, p.1 ≠ e
 | [], _, _, _, h => nomatch h
 | _ :: _, x, hd, p, h => by
   rcases List.mem_cons.mp h with rfl | h
   · exact Nat.ne_of_lt (Nat.lt_of_lt_of_le x.1 hd)
   · exact ltAll x.2 hd p h
theorem pk0 {P R : Prop} (h : P ∧ R) : P := h.1
theorem pk1 {a P R : Prop} (h : a ∧ P ∧ R) : P := h.2.1
theorem pk2 {a b P R : Prop} (h : a ∧ b ∧ P ∧ R) : P := h.2.2.1
theorem pk3 {a b c P R : Prop} (h : a ∧ b ∧ c ∧ P ∧ R) : P := h.2.2.2.1
theorem pk4 {a b c d P R : Prop} (h : a ∧ b ∧ c ∧ d ∧ P ∧ R) : P := h.2.2.2.2.1
theorem pk5 {a b c d e P R : Prop} (h : a ∧ b ∧ c ∧ d ∧ e ∧ P ∧ R) : P := h.2.2.2.2.2.1
theorem pk6 {a b c d e f P R : Prop} (h : a ∧ b ∧ c ∧ d ∧ e ∧ f ∧ P ∧ R) : P := h.2.2.2.2.2.2.1
noncomputable def Bl {α : Type} (P Q : α → Shared → Prop) : Prop := ∀ a s, P a s → Q a s
theorem Bl.use {α : Type} {P Q : α → Shared → Prop} (h : Bl P Q) (a : α) (s : Shared) (p : P a s) : Q a s := h a s p
theorem blind {α : Type} {M : Model} {A : Around} {t : Sem α} {Q : α → Shared → Prop} {E : Value → Shared → Prop} {s : Shared} (k : ∀ Q' : α → Shared → Prop, Bl Q Q' → wpAny M A t Q' E s) : wpAny M A t Q E s := k Q fun _ _ h => h
noncomputable def Opq (P G : Prop) : Prop := P → G
theorem opq {P : Prop} (k : ∀ G : Prop, Opq P G → G) : P := k P id
section
variable {M : Model} {A : Around} {E : Value → Shared → Prop} {s : Shared} {K : Frag} {h₀ : Heap} {L C : Addr} {m mg mb m₂ : Str → Option Value} {p : Program} {loose : List Str} {mean : ExcName → Option Value} {env : Env}
 {x : Str} {pos : Pos} {v : Value} {Q : Value → Shared → Prop} {oC : Obj} {news : List (Addr × Obj)}
noncomputable def nmIs (k : NameKind) (env : Env) (x : Str) : Bool := decide (env.kindOf x = some k ∧ env.scope.kind = .function ∧ (x == ("__debug__" : Str)) = false)
theorem nmL (g : nmIs .local env x = true) (e : env.locals = L) (F : Fr h₀ L s.heap m) (hv : m x = some v) (h : Q v s) : wpAny M A (eval (.Name x pos) env) Q E s :=
 wpAny_Name (wpAny_loadName_local (of_decide_eq_true g).2.1 (of_decide_eq_true g).1 (e ▸ F.ns) hv h) (of_decide_eq_true g).2.2
theorem nmO (g : nmIs .local env x = true) (e : env.locals = C) (N : News h₀ L s.heap news) (hm : (C, oC) ∈ news) (hC : LCg.NsObj oC m₂) (hv : m₂ x = some v) (h : Q v s) : wpAny M A (eval (.Name x pos) env) Q E s :=
 wpAny_Name (wpAny_loadName_local (of_decide_eq_true g).2.1 (of_decide_eq_true g).1 (e ▸ hC.ns (N _ hm).1) hv h) (of_decide_eq_true g).2.2
theorem nmK (g : nmIs .globalImplicit env x = true) (a : env.globals = mainGlobals) (F : Fr h₀ L s.heap m) (X : K.In h₀) (T : Top p loose mean mg mb h₀) (e : nsIn K mainGlobals x = some (some v)) (h : Q v s) : wpAny M A (eval (.Name x pos) env) Q E s :=
 Calls.Name_function_global (of_decide_eq_true g).2.1 (of_decide_eq_true g).1 (Calls.loadGlobal_global (env := env) (a ▸ T.g.keeps F.keep) (mg_of X T.g e) h) (of_decide_eq_true g).2.2
theorem nmB (g : nmIs .globalImplicit env x = true) (a : env.globals = mainGlobals) (b : env.builtins = builtinsNs) (F : Fr h₀ L s.heap m) (X : K.In h₀) (T : Top p loose mean mg mb h₀) (e : nsIn K mainGlobals x = some none) (hv : bootBuiltins x = some v) (n : decide (x ≠ "__name__") = true) (h : Q v s) : wpAny M A (eval (.Name x pos) env) Q E s :=
 Calls.Name_function_global (of_decide_eq_true g).2.1 (of_decide_eq_true g).1 (Calls.loadGlobal_builtin (env := env) (a ▸ T.g.keeps F.keep) (mg_none_of X T.g e) (b ▸ T.b.keeps F.keep) ((T.builtins x (of_decide_eq_true n)).trans hv) h) (of_decide_eq_true g).2.2
end
noncomputable def Wrap (P : Prop) : Prop := P
inductive HZ : {α : Type} → Sem α → Prop
 | w (a b c d env) : HZ (exec (Stmt.While a b c d) env)
 | f (a b c d e env) : HZ (exec (Stmt.For a b c d e) env)
 | l (a b c d env) : HZ (eval (Expr.ListComp a b c d) env)
 | al (t a b c d p env) : HZ (exec (Stmt.Assign [t] (Expr.ListComp a b c d) p) env)
 | o (n p k) (h : [23, 32, 41, 50, 71, 86, 102, 109, 114, 121, 126].elem n = true) : HZ (call (Value.ref n) p k)
 | i (p k) : HZ (call (Value.builtin "list.insert") p k)
theorem hz0 {α : Type} {M : Model} {A : Around} {t : Sem α} {Q : α → Shared → Prop} {E : Value → Shared → Prop} {s : Shared} (_ : HZ t) (h : wpAny M A t Q E s) : wpAny M A t Q E s := h
end
set_option hygiene false
local macro_rules | `(tactic| omega) => `(tactic| lia)
local macro_rules | `(tactic| k_room) => `(tactic| exact Nat.le_of_ble_eq_true rfl)
local macro_rules | `(tactic| k_lt $h:ident) => `(tactic| (replace $h := allLt_of $h; (dsimp only [AllLt] at $h:ident); (try simp only [and_true] at $h:ident)))
local macro_rules | `(tactic| k_ne) => `(tactic| ((try dsimp only); with_reducible first | assumption | exact Nat.ne_of_lt (by assumption) | (refine Nat.ne_of_gt ?_; first | assumption | exact pk0 (by assumption) | exact pk1 (by assumption) | exact pk2 (by assumption) | exact pk3 (by assumption) | exact pk4 (by assumption)) | omega))
local macro_rules | `(tactic| k_all) => `(tactic| first | assumption | exact ltAll (by assumption) (Nat.le_refl _) | (k_whole; exact ltAll (by assumption) (by omega)) | fail)
local macro_rules | `(tactic| size_fits) => `(tactic| exact Nat.le_of_ble_eq_true rfl)
local macro_rules | `(tactic| walk_at "zlook") => `(tactic| (repeat (refine Eq.trans (if_neg (by decide)) ?_)); first | exact rfl | assumption)
local macro_rules | `(tactic| walk_at "zs") => `(tactic| repeat' (first | ((with_reducible rename Bl _ _ => hB'); (refine hB' _ _ ?_); clear hB'; (try dsimp only)) | (k_unfold; (try dsimp only)) | (k_end; wrow_close) | ((fail_if_success (with_reducible first | show Wrap _ | show wpC _ _ _ _ _ _ | refine hzt (by constructor) ?_ | refine hz0 (by constructor <;> rfl) ?_ | refine hzn ?_)); first | ((with_reducible refine wpAny_execs_cons (blind ?_)); intro Q' hQ') | walk1 | (dsimp only; walk1)) | fail "no step"))
local macro_rules | `(tactic| walk_at "zsize") => `(tactic| ((try simp only [List.size_toArray, List.length_append, List.length_cons, List.length_nil, List.length_map]); first | omega | (simp only [sizeLine_eq]; omega)))
set_option hygiene true
local macro_rules | `(tactic| walk_at "callWith ref") => `(tactic| (k_here; first | ((with_reducible refine' callWith_K ?k1 ?k2 ?_ ?k4 ?k5); k_dflt ((case k1 => k_asm); (case k2 => k_is); (case k4 => rfl); (case k5 => rfl))) | ((with_reducible refine' callWith_KW ?k1 ?k2 ?k3 ?_ ?k4 ?k5); k_dflt ((case k1 => k_asm); (case k2 => k_is); (case k3 => rfl); (case k4 => rfl); (case k5 => rfl)))))
local macro_rules | `(tactic| walk_at "call builtin:len") => `(tactic| (k_here; (with_reducible show wpAny _ _ (call (Value.builtin "len") [Value.ref _]) _ _ _); k_dflt (refine len_list (News.isList (by k_asm) (by k_mem)) (by walk_at "zsize") ?_; k_whole); (try simp only [List.size_toArray])))
local macro_rules | `(tactic| walk_at "subscriptTail") => `(tactic| (k_here; (with_reducible show wpAny _ _ (subscriptTail _ _ (Value.ref _) (Value.int _ _)) _ _ _); k_dflt (refine item_listL (News.isList (by k_asm) (by k_mem)) (by omega) (by omega) (by assumption) ?_; k_whole)))
local macro_rules | `(tactic| walk_at "eval Name") => `(tactic| (k_here; (first | ((with_reducible refine' nmL ?g ?a ?F ?v ?_); k_dflt ((case g => exact rfl); (case a => exact rfl); (case F => k_asm); (case v => first | exact rfl | assumption | ((repeat (refine Eq.trans (if_neg (by decide)) ?_)); first | exact rfl | assumption)))) | ((with_reducible refine' nmK ?g ?a ?F ?X ?T ?e ?_); k_dflt ((case g => exact rfl); (case a => exact rfl); (case F => k_asm); (case X => k_asm); (case T => k_asm); (case e => k_is))) | ((with_reducible refine' nmB ?g ?a ?b ?F ?X ?T ?e ?v ?n ?_); k_dflt ((case g => exact rfl); (case a => exact rfl); (case b => exact rfl); (case F => k_asm); (case X => k_asm); (case T => k_asm); (case e => k_is); (case v => boot_by_name); (case n => exact rfl))) | ((with_reducible refine' nmO ?g ?a ?N ?M ?F ?v ?_); k_dflt ((case g => exact rfl); (case a => exact rfl); (case N => k_asm); (case M => k_mem); (case F => assumption); (case v => first | exact rfl | assumption)))); k_whole))
section
section
variable {w : World} {A : Around} {h₀ : Heap} {L : Addr} {m : Str → Option Value} {news : List (Addr × Obj)} {s : Shared} {E : Value → Shared → Prop} {Q : Value → Shared → Prop}
set_option maxHeartbeats 4000000 in
theorem neg_ok {x : Int} {t : Tok} (C : Cx w 390 A L h₀) (F : Fr h₀ L s.heap m) (N : News h₀ L s.heap news)
   (h : ∀ h' tk t', Fr h₀ L h' m → News h₀ L h' news → Q (.int (-x) t') { s with heap := h', toks := tk }) :
   wpAny (model PySem.Challenge.rw_wy0029_01.row.prog w) A (call (.ref 64) [.int x t]) Q E s := by
 (((rename Cx _ _ _ _ _ => c0z); (obtain ⟨hdz, huz, hAz, hfz, hkz, Bz, Xz, CT1z, CT2z, Tz⟩ := c0z); (refine lift_around hdz huz hAz ?_); (try refine wpAny_noRaise ?_); (have q0z : (PySem.Challenge.rw_wy0029_01, fun P => (Mine.hd.heap_1 P).length) = (PySem.Challenge.rw_wy0029_01, fun P => (Mine.hd.heap_1 P).length) := by k_fill; rfl); clear q0z); (refine wpAny_call ?_); (refine' code_def ?k1 ?k2 ?k3 ?k4 ?k5 ?kA ?kF ?kK ?k6 ?k7 ?k8 ?k9 ?kB ?_ ?c2 ?c3 ?c4 ?c5; (case kA => exact rfl); (case kF => first | assumption | exact rfl); (case kK => first | assumption | exact rfl); (case k1 => k_asm); (case k2 => k_asm); (case k3 => k_asm); (case k4 => k_asm); (case k5 => k_asm); (case k6 => k_is); (case k7 => k_is); (case k8 => k_room); (case k9 => first | exact BindsTo.of_eq rfl | exact binds_K (by k_in) rfl (by k_is) rfl rfl rfl | (refine' kp_binds ?kx ?ke; (case kx => k_in); (case ke => exact fun _ => rfl))); (case c5 => decide); (case kB => exact locs rfl); (case c2 => exact rfl); (case c3 => exact rfl); (case c4 => exact rfl); k_whole; intro gz' Lz' hz' FGz' Fz' Nz' Bz' Xz' Tz'; (have c1z' := CodeHd.keeps (c := 125) (P := 123) (by assumption) (Fr.keep FGz')); (have c2z' := CodeHd.keeps (c := 108) (P := 104) (by assumption) (Fr.keep FGz')); (try dsimp only); (try k_lift Bz'); (try k_fold)); (refine wpAny_noRaise ?_))
 walk_at "zs"
 exact h _ _ _ (by k_asm) (by k_asm)
set_option maxHeartbeats 4000000 in
theorem add_ok {x y : Int} {t u : Tok} (C : Cx w 390 A L h₀) (F : Fr h₀ L s.heap m) (N : News h₀ L s.heap news)
   (h : ∀ h' tk t', Fr h₀ L h' m → News h₀ L h' news → Q (.int (x + y) t') { s with heap := h', toks := tk }) :
   wpAny (model PySem.Challenge.rw_wy0029_01.row.prog w) A (call (.ref 57) [.int x t, .int y u]) Q E s := by
 (((rename Cx _ _ _ _ _ => c0z); (obtain ⟨hdz, huz, hAz, hfz, hkz, Bz, Xz, CT1z, CT2z, Tz⟩ := c0z); (refine lift_around hdz huz hAz ?_); (try refine wpAny_noRaise ?_); (have q0z : (PySem.Challenge.rw_wy0029_01, fun P => (Mine.hd.heap_1 P).length) = (PySem.Challenge.rw_wy0029_01, fun P => (Mine.hd.heap_1 P).length) := by k_fill; rfl); clear q0z); (refine wpAny_call ?_); (refine' code_def ?k1 ?k2 ?k3 ?k4 ?k5 ?kA ?kF ?kK ?k6 ?k7 ?k8 ?k9 ?kB ?_ ?c2 ?c3 ?c4 ?c5; (case kA => exact rfl); (case kF => first | assumption | exact rfl); (case kK => first | assumption | exact rfl); (case k1 => k_asm); (case k2 => k_asm); (case k3 => k_asm); (case k4 => k_asm); (case k5 => k_asm); (case k6 => k_is); (case k7 => k_is); (case k8 => k_room); (case k9 => first | exact BindsTo.of_eq rfl | exact binds_K (by k_in) rfl (by k_is) rfl rfl rfl | (refine' kp_binds ?kx ?ke; (case kx => k_in); (case ke => exact fun _ => rfl))); (case c5 => decide); (case kB => exact locs rfl); (case c2 => exact rfl); (case c3 => exact rfl); (case c4 => exact rfl); k_whole; intro gz' Lz' hz' FGz' Fz' Nz' Bz' Xz' Tz'; (have c1z' := CodeHd.keeps (c := 125) (P := 123) (by assumption) (Fr.keep FGz')); (have c2z' := CodeHd.keeps (c := 108) (P := 104) (by assumption) (Fr.keep FGz')); (try dsimp only); (try k_lift Bz'); (try k_fold)); (refine wpAny_noRaise ?_))
 walk_at "zs"
 exact h _ _ _ (by k_asm) (by k_asm)
set_option maxHeartbeats 4000000 in
theorem hint_ok {a : Addr} {vs : List Value} {n : Nat} (C : Cx w 390 A L h₀) (F : Fr h₀ L s.heap m) (N : News h₀ L s.heap news) (hm : (a, listOf vs.toArray n) ∈ news) (hl : vs.length ≤ 1000)
   (h : ∀ h' tk t', Fr h₀ L h' m → News h₀ L h' news → Q (.int vs.length t') { s with heap := h', toks := tk }) :
   wpAny (model PySem.Challenge.rw_wy0029_01.row.prog w) A (call (.ref 79) [.ref a]) Q E s := by
 (((rename Cx _ _ _ _ _ => c0z); (obtain ⟨hdz, huz, hAz, hfz, hkz, Bz, Xz, CT1z, CT2z, Tz⟩ := c0z); (refine lift_around hdz huz hAz ?_); (try refine wpAny_noRaise ?_); (have q0z : (PySem.Challenge.rw_wy0029_01, fun P => (Mine.hd.heap_1 P).length) = (PySem.Challenge.rw_wy0029_01, fun P => (Mine.hd.heap_1 P).length) := by k_fill; rfl); clear q0z); (refine wpAny_call ?_); (refine' code_def ?k1 ?k2 ?k3 ?k4 ?k5 ?kA ?kF ?kK ?k6 ?k7 ?k8 ?k9 ?kB ?_ ?c2 ?c3 ?c4 ?c5; (case kA => exact rfl); (case kF => first | assumption | exact rfl); (case kK => first | assumption | exact rfl); (case k1 => k_asm); (case k2 => k_asm); (case k3 => k_asm); (case k4 => k_asm); (case k5 => k_asm); (case k6 => k_is); (case k7 => k_is); (case k8 => k_room); (case k9 => first | exact BindsTo.of_eq rfl | exact binds_K (by k_in) rfl (by k_is) rfl rfl rfl | (refine' kp_binds ?kx ?ke; (case kx => k_in); (case ke => exact fun _ => rfl))); (case c5 => decide); (case kB => exact locs rfl); (case c2 => exact rfl); (case c3 => exact rfl); (case c4 => exact rfl); k_whole; intro gz' Lz' hz' FGz' Fz' Nz' Bz' Xz' Tz'; (have c1z' := CodeHd.keeps (c := 125) (P := 123) (by assumption) (Fr.keep FGz')); (have c2z' := CodeHd.keeps (c := 108) (P := 104) (by assumption) (Fr.keep FGz')); (try dsimp only); (try k_lift Bz'); (try k_fold)); (refine wpAny_noRaise ?_))
 walk_at "zs"
 exact h _ _ _ (by k_asm) (by k_asm)
end
end
section
noncomputable def KeyAt (w : World) (q : Addr) (news : List (Addr × Obj)) (v : Value) (k : Int) : Prop :=
 ∀ (A : Around) (h₀ : Heap) (L : Addr) (m : Str → Option Value) (s : Shared) (E : Value → Shared → Prop) (Q : Value → Shared → Prop),
   Cx w 360 A L h₀ → A.handled = none → Fr h₀ L s.heap m → News h₀ L s.heap news → (∀ h' tk t', Fr h₀ L h' m → News h₀ L h' news → Q (.int k t') { s with heap := h', toks := tk }) →
   wpAny (model PySem.Challenge.rw_wy0029_01.row.prog w) A (call (.ref q) [v]) Q E s
noncomputable def KeyOn (w : World) (q : Addr) (news : List (Addr × Obj)) (vs : List Value) (ks : List Int) : Prop :=
 vs.length = ks.length ∧ (∃ oc od fd sl, (q, (⟨oc, od, .func fd, sl⟩ : Obj)) ∈ news) ∧ ∀ (i : Nat) (v : Value) (k : Int), vs[i]? = some v → ks[i]? = some k → KeyAt w q news v k
noncomputable def Rises (ks : List Int) : Prop := ∀ (i j : Nat) (ki kj : Int), i ≤ j → ks[i]? = some ki → ks[j]? = some kj → ki ≤ kj
theorem binds_lk {K : Frag} {f : Addr} {oc oc' : Value} {od od' : Option Addr} {fd fd' : FuncData} {sl sl' : Array (Option Value)} {s : Shared} {args : Args} {b : List (Str × Value)} (e : K.lookup f = some ⟨oc, od, .func fd, sl⟩) (e' : K.lookup f = some ⟨oc', od', .func fd', sl'⟩) (h : BindsTo s fd' args b) : BindsTo s fd args b := by
 rw [e'] at e; cases e; exact h
structure BisC (ks : List Int) (P : Int → Prop) (lo hi : Nat) : Prop where
 le : lo ≤ hi
 top : hi ≤ ks.length
 hL : ∀ (i : Nat) (k : Int), ks[i]? = some k → i < lo → P k
 hH : ∀ (i : Nat) (k : Int), ks[i]? = some k → hi ≤ i → ¬ P k
theorem BisC.start {ks : List Int} {P : Int → Prop} {z : Nat} (h : z = ks.length) : BisC ks P 0 z := ⟨Nat.zero_le _, Nat.le_of_eq h, fun i k _ q => absurd q (Nat.not_lt_zero _), fun i k e q => absurd (List.getElem?_eq_some_iff.mp e).1 (Nat.not_lt.mpr (h ▸ q))⟩
theorem BisC.mid {lo hi : Nat} (h : lo < hi) : lo ≤ (lo + hi) / 2 ∧ (lo + hi) / 2 < hi := Mine.mid h
theorem BisC.down {ks : List Int} {P : Int → Prop} {lo hi : Nat} {k : Int} (B : BisC ks P lo hi) (hs : Rises ks) (hP : ∀ k k', k ≤ k' → P k' → P k) (h : lo < hi) (e : ks[(lo + hi) / 2]? = some k) (c : ¬ P k) : BisC ks P lo ((lo + hi) / 2) ∧ (lo + hi) / 2 - lo < hi - lo :=
 have m := BisC.mid h
 ⟨⟨m.1, Nat.le_trans (Nat.le_of_lt m.2) B.top, B.hL, fun _ _ e' q p => c (hP _ _ (hs _ _ _ _ q e e') p)⟩, Nat.sub_lt_sub_right m.1 m.2⟩
theorem BisC.up {ks : List Int} {P : Int → Prop} {lo hi : Nat} {k : Int} (B : BisC ks P lo hi) (hs : Rises ks) (hP : ∀ k k', k ≤ k' → P k' → P k) (h : lo < hi) (e : ks[(lo + hi) / 2]? = some k) (c : P k) : BisC ks P ((lo + hi) / 2 + 1) hi ∧ hi - ((lo + hi) / 2 + 1) < hi - lo :=
 have m := BisC.mid h
 ⟨⟨m.2, B.top, fun _ _ e' q => hP _ _ (hs _ _ _ _ (Nat.le_of_lt_succ q) e' e) c, B.hH⟩, Nat.sub_lt_sub_left h (Nat.lt_succ_of_le m.1)⟩
theorem BisC.fin {ks : List Int} {P : Int → Prop} {lo hi : Nat} (B : BisC ks P lo hi) (h : ¬ lo < hi) : lo ≤ ks.length ∧ ∀ (i : Nat) (k : Int), ks[i]? = some k → (i < lo ↔ P k) :=
 ⟨Nat.le_trans B.le B.top, fun i k e => ⟨B.hL i k e, fun p => Nat.lt_of_not_le fun q => B.hH i k e (Nat.le_trans (Nat.le_of_not_lt h) q) p⟩⟩
inductive BisI (ks : List Int) (P : Int → Prop) (a q : Addr) (x : Int) (t : Tok) (news : List (Addr × Obj)) (n : Nat) (m : Str → Option Value) (news' : List (Addr × Obj)) : Prop
 | mk (lo hi : Nat) (tl th : Tok) (hw : news' = news) (hn : n = hi - lo) (B : BisC ks P lo hi) (e1 : m "lo" = some (.int lo tl)) (e2 : m "hi" = some (.int hi th)) (e3 : m "a" = some (.ref a)) (e4 : m "x" = some (.int x t)) (e5 : m "key" = some (.ref q))
theorem half_is (lo hi : Nat) : ((lo : Int) + (hi : Int)).fdiv 2 = (((lo + hi) / 2 : Nat) : Int) := by rw [Int.fdiv_eq_ediv_of_nonneg _ (by decide)]; rfl
section
variable {w : World} {A : Around} {h₀ : Heap} {L : Addr} {m : Str → Option Value} {news : List (Addr × Obj)} {s : Shared} {E : Value → Shared → Prop} {Q : Value → Shared → Prop}
set_option maxHeartbeats 4000000 in
theorem bisR_ok {a q : Addr} {vs : List Value} {ks : List Int} {n : Nat} {x : Int} {t u : Tok} {pos : List Value} (C : Cx w 350 A L h₀) (hh : A.handled = none) (F : Fr h₀ L s.heap m) (N : News h₀ L s.heap news) (hm : (a, listOf vs.toArray n) ∈ news) (hl : vs.length ≤ 1000)
   (K : KeyOn w q news vs ks) (hs : Rises ks) (hb : ∀ oc od fd sl, (Mine.hd.heap_1 w.params).lookup 32 = some ⟨oc, od, .func fd, sl⟩ → (Mine.hd.heap_1 w.params).In s.heap → BindsTo s fd ⟨pos, [("key", .ref q)]⟩ [("a", .ref a), ("x", .int x t), ("lo", .int 0 u), ("hi", .none), ("key", .ref q)])
   (h : ∀ h' tk t' (r : Nat), Fr h₀ L h' m → News h₀ L h' news → r ≤ ks.length → (∀ (i : Nat) (k : Int), ks[i]? = some k → (i < r ↔ k ≤ x)) → Q (.int r t') { s with heap := h', toks := tk }) :
   wpAny (model PySem.Challenge.rw_wy0029_01.row.prog w) A (call (.ref 32) pos [("key", .ref q)]) Q E s := by
 (((rename Cx _ _ _ _ _ => c0z); (obtain ⟨hdz, huz, hAz, hfz, hkz, Bz, Xz, CT1z, CT2z, Tz⟩ := c0z); (refine lift_around hdz huz hAz ?_); (try refine wpAny_noRaise ?_); (have q0z : (PySem.Challenge.rw_wy0029_01, fun P => (Mine.hd.heap_1 P).length) = (PySem.Challenge.rw_wy0029_01, fun P => (Mine.hd.heap_1 P).length) := by k_fill; rfl); clear q0z))
 refine wpAny_call ?_
 (refine' code_def ?k1 ?k2 ?k3 ?k4 ?k5 ?kA ?kF ?kK ?k6 ?k7 ?k8 ?k9 ?kB ?_ ?c2 ?c3 ?c4 ?c5; (case kA => exact rfl); (case kF => assumption); (case kK => assumption); (case k1 => k_asm); (case k2 => k_asm); (case k3 => k_asm); (case k4 => k_asm); (case k5 => k_asm); (case k6 => k_is); (case k7 => k_is); (case k8 => k_room); (case k9 => exact hb _ _ _ _ (by k_is) (Frag.In.keeps (by assumption) (Fr.keep F))); (case c5 => decide); (case kB => exact locs rfl); (case c2 => exact rfl); (case c3 => exact rfl); (case c4 => exact rfl); k_whole; intro g' L' h' FG' F' N' B' X' T'; (have c1' := CodeHd.keeps (c := 125) (P := 123) (by assumption) (Fr.keep FG')); (have c2' := CodeHd.keeps (c := 108) (P := 104) (by assumption) (Fr.keep FG')); (try dsimp only); (try k_lift B'); (try k_fold))
 refine wpAny_noRaise ?_
 obtain ⟨Kl, ⟨oc, od, fd, sl, Kq⟩, Kf⟩ := K
 walk_at "zs"
 rename Fr _ _ _ _ => F1
 rename News _ _ _ _ => N1
 refine While_inv (n₀ := vs.length) (fun n m' news' => BisI ks (fun k => k ≤ x) a q x t news n m' news') F1 N1 ⟨0, vs.length, _, _, rfl, rfl, .start Kl, rfl, rfl, rfl, rfl, rfl⟩ ?_
 intro n m' news' h₁ tk₁ F2 N2 HI
 clear F1 N1
 obtain ⟨lo, hi, tl, th, rfl, hn, HB, e1, e2, e3, e4, e5⟩ := HI
 by_cases hlt : lo < hi
 · have hmv : (lo + hi) / 2 < vs.length := Nat.lt_of_lt_of_le (BisC.mid hlt).2 (Nat.le_trans HB.top (Nat.le_of_eq Kl.symm))
   obtain ⟨v, hv⟩ : ∃ v, vs[(((lo : Int) + (hi : Int)).fdiv 2).toNat]? = some v := ⟨_, List.getElem?_eq_getElem (by rw [half_is]; exact hmv)⟩
   obtain ⟨k, hkk⟩ : ∃ k, ks[(((lo : Int) + (hi : Int)).fdiv 2).toNat]? = some k := ⟨_, List.getElem?_eq_getElem (by rw [half_is]; exact Kl ▸ hmv)⟩
   have hkk' : ks[(lo + hi) / 2]? = some k := by rw [half_is] at hkk; exact hkk
   have g0 : (0 : Int) ≤ ((lo : Int) + (hi : Int)).fdiv 2 := by rw [half_is]; exact Int.natCast_nonneg _
   have g1 : (((lo : Int) + (hi : Int)).fdiv 2) < (vs.length : Int) := by rw [half_is]; exact Int.ofNat_lt.mpr hmv
   walk_at "zs"
   refine Kf _ _ _ hv hkk _ _ _ _ _ _ _ (by exact .mk (Nat.le_of_ble_eq_true rfl) (Nat.le_of_ble_eq_true rfl) rfl rfl rfl (by assumption) (by assumption) (by assumption) (by assumption) (by assumption)) hh (by k_asm) (by k_asm) ?_
   intro h₂ tk₂ t₂ F3 N3
   walk_at "zs"
   · rename x < k => hc
     have st := HB.down hs (fun _ _ a b => Int.le_trans a b) hlt hkk' (Int.not_le.mpr hc)
     exact WhileStep.intro (by k_asm) (by k_asm) (hn ▸ st.2) ⟨lo, (lo + hi) / 2, _, _, rfl, rfl, st.1, by walk_at "zlook", by rw [← half_is]; exact rfl, by walk_at "zlook", by walk_at "zlook", by walk_at "zlook"⟩
   · rename ¬ x < k => hc
     have st := HB.up hs (fun _ _ a b => Int.le_trans a b) hlt hkk' (Int.not_lt.mp hc)
     exact WhileStep.intro (by k_asm) (by k_asm) (hn ▸ st.2) ⟨(lo + hi) / 2 + 1, hi, _, _, rfl, rfl, st.1, by rw [Int.natCast_add, ← half_is]; exact rfl, by walk_at "zlook", by walk_at "zlook", by walk_at "zlook", by walk_at "zlook"⟩
 · walk_at "zs"
   have fin := HB.fin hlt
   exact h _ _ _ _ (by k_asm) (by k_asm) fin.1 fin.2
theorem bisR4_ok {a q : Addr} {vs : List Value} {ks : List Int} {n : Nat} {x : Int} {t u : Tok} (C : Cx w 350 A L h₀) (hh : A.handled = none) (F : Fr h₀ L s.heap m) (N : News h₀ L s.heap news) (hm : (a, listOf vs.toArray n) ∈ news) (hl : vs.length ≤ 1000)
   (K : KeyOn w q news vs ks) (hs : Rises ks)
   (h : ∀ h' tk t' (r : Nat), Fr h₀ L h' m → News h₀ L h' news → r ≤ ks.length → (∀ (i : Nat) (k : Int), ks[i]? = some k → (i < r ↔ k ≤ x)) → Q (.int r t') { s with heap := h', toks := tk }) :
   wpAny (model PySem.Challenge.rw_wy0029_01.row.prog w) A (call (.ref 32) [.ref a, .int x t, .int 0 u, .none] [("key", .ref q)]) Q E s :=
 bisR_ok C hh F N hm hl K hs (fun _ _ _ _ e X => binds_lk e (by k_is) (by first | exact BindsTo.of_eq rfl | exact binds_K (by k_in) rfl (by k_is) rfl rfl rfl | (refine' kp_binds ?kx ?ke; (case kx => k_in); (case ke => exact fun _ => rfl)))) h
theorem bisR2_ok {a q : Addr} {vs : List Value} {ks : List Int} {n : Nat} {x : Int} {t : Tok} (C : Cx w 350 A L h₀) (hh : A.handled = none) (F : Fr h₀ L s.heap m) (N : News h₀ L s.heap news) (hm : (a, listOf vs.toArray n) ∈ news) (hl : vs.length ≤ 1000)
   (K : KeyOn w q news vs ks) (hs : Rises ks)
   (h : ∀ h' tk t' (r : Nat), Fr h₀ L h' m → News h₀ L h' news → r ≤ ks.length → (∀ (i : Nat) (k : Int), ks[i]? = some k → (i < r ↔ k ≤ x)) → Q (.int r t') { s with heap := h', toks := tk }) :
   wpAny (model PySem.Challenge.rw_wy0029_01.row.prog w) A (call (.ref 32) [.ref a, .int x t] [("key", .ref q)]) Q E s :=
 bisR_ok C hh F N hm hl K hs (fun _ _ _ _ e X => binds_lk e (by k_is) (by first | exact binds_K (by k_in) rfl (by k_is) rfl rfl rfl | (refine' kp_binds ?kx ?ke; (case kx => k_in); (case ke => exact fun _ => rfl)))) h
set_option maxHeartbeats 4000000 in
theorem bisL_ok {a q : Addr} {vs : List Value} {ks : List Int} {n : Nat} {x : Int} {t u : Tok} {pos : List Value} (C : Cx w 350 A L h₀) (hh : A.handled = none) (F : Fr h₀ L s.heap m) (N : News h₀ L s.heap news) (hm : (a, listOf vs.toArray n) ∈ news) (hl : vs.length ≤ 1000)
   (K : KeyOn w q news vs ks) (hs : Rises ks) (hb : ∀ oc od fd sl, (Mine.hd.heap_1 w.params).lookup 50 = some ⟨oc, od, .func fd, sl⟩ → (Mine.hd.heap_1 w.params).In s.heap → BindsTo s fd ⟨pos, [("key", .ref q)]⟩ [("a", .ref a), ("x", .int x t), ("lo", .int 0 u), ("hi", .none), ("key", .ref q)])
   (h : ∀ h' tk t' (r : Nat), Fr h₀ L h' m → News h₀ L h' news → r ≤ ks.length → (∀ (i : Nat) (k : Int), ks[i]? = some k → (i < r ↔ k < x)) → Q (.int r t') { s with heap := h', toks := tk }) :
   wpAny (model PySem.Challenge.rw_wy0029_01.row.prog w) A (call (.ref 50) pos [("key", .ref q)]) Q E s := by
 (((rename Cx _ _ _ _ _ => c0z); (obtain ⟨hdz, huz, hAz, hfz, hkz, Bz, Xz, CT1z, CT2z, Tz⟩ := c0z); (refine lift_around hdz huz hAz ?_); (try refine wpAny_noRaise ?_); (have q0z : (PySem.Challenge.rw_wy0029_01, fun P => (Mine.hd.heap_1 P).length) = (PySem.Challenge.rw_wy0029_01, fun P => (Mine.hd.heap_1 P).length) := by k_fill; rfl); clear q0z))
 refine wpAny_call ?_
 (refine' code_def ?k1 ?k2 ?k3 ?k4 ?k5 ?kA ?kF ?kK ?k6 ?k7 ?k8 ?k9 ?kB ?_ ?c2 ?c3 ?c4 ?c5; (case kA => exact rfl); (case kF => assumption); (case kK => assumption); (case k1 => k_asm); (case k2 => k_asm); (case k3 => k_asm); (case k4 => k_asm); (case k5 => k_asm); (case k6 => k_is); (case k7 => k_is); (case k8 => k_room); (case k9 => exact hb _ _ _ _ (by k_is) (Frag.In.keeps (by assumption) (Fr.keep F))); (case c5 => decide); (case kB => exact locs rfl); (case c2 => exact rfl); (case c3 => exact rfl); (case c4 => exact rfl); k_whole; intro g' L' h' FG' F' N' B' X' T'; (have c1' := CodeHd.keeps (c := 125) (P := 123) (by assumption) (Fr.keep FG')); (have c2' := CodeHd.keeps (c := 108) (P := 104) (by assumption) (Fr.keep FG')); (try dsimp only); (try k_lift B'); (try k_fold))
 refine wpAny_noRaise ?_
 obtain ⟨Kl, ⟨oc, od, fd, sl, Kq⟩, Kf⟩ := K
 walk_at "zs"
 rename Fr _ _ _ _ => F1
 rename News _ _ _ _ => N1
 refine While_inv (n₀ := vs.length) (fun n m' news' => BisI ks (fun k => k < x) a q x t news n m' news') F1 N1 ⟨0, vs.length, _, _, rfl, rfl, .start Kl, rfl, rfl, rfl, rfl, rfl⟩ ?_
 intro n m' news' h₁ tk₁ F2 N2 HI
 clear F1 N1
 obtain ⟨lo, hi, tl, th, rfl, hn, HB, e1, e2, e3, e4, e5⟩ := HI
 by_cases hlt : lo < hi
 · have hmv : (lo + hi) / 2 < vs.length := Nat.lt_of_lt_of_le (BisC.mid hlt).2 (Nat.le_trans HB.top (Nat.le_of_eq Kl.symm))
   obtain ⟨v, hv⟩ : ∃ v, vs[(((lo : Int) + (hi : Int)).fdiv 2).toNat]? = some v := ⟨_, List.getElem?_eq_getElem (by rw [half_is]; exact hmv)⟩
   obtain ⟨k, hkk⟩ : ∃ k, ks[(((lo : Int) + (hi : Int)).fdiv 2).toNat]? = some k := ⟨_, List.getElem?_eq_getElem (by rw [half_is]; exact Kl ▸ hmv)⟩
   have hkk' : ks[(lo + hi) / 2]? = some k := by rw [half_is] at hkk; exact hkk
   have g0 : (0 : Int) ≤ ((lo : Int) + (hi : Int)).fdiv 2 := by rw [half_is]; exact Int.natCast_nonneg _
   have g1 : (((lo : Int) + (hi : Int)).fdiv 2) < (vs.length : Int) := by rw [half_is]; exact Int.ofNat_lt.mpr hmv
   walk_at "zs"
   refine Kf _ _ _ hv hkk _ _ _ _ _ _ _ (by exact .mk (Nat.le_of_ble_eq_true rfl) (Nat.le_of_ble_eq_true rfl) rfl rfl rfl (by assumption) (by assumption) (by assumption) (by assumption) (by assumption)) hh (by k_asm) (by k_asm) ?_
   intro h₂ tk₂ t₂ F3 N3
   walk_at "zs"
   · rename k < x => hc
     have st := HB.up hs (fun _ _ a b => Int.lt_of_le_of_lt a b) hlt hkk' hc
     exact WhileStep.intro (by k_asm) (by k_asm) (hn ▸ st.2) ⟨(lo + hi) / 2 + 1, hi, _, _, rfl, rfl, st.1, by rw [Int.natCast_add, ← half_is]; exact rfl, by walk_at "zlook", by walk_at "zlook", by walk_at "zlook", by walk_at "zlook"⟩
   · rename ¬ k < x => hc
     have st := HB.down hs (fun _ _ a b => Int.lt_of_le_of_lt a b) hlt hkk' hc
     exact WhileStep.intro (by k_asm) (by k_asm) (hn ▸ st.2) ⟨lo, (lo + hi) / 2, _, _, rfl, rfl, st.1, by walk_at "zlook", by rw [← half_is]; exact rfl, by walk_at "zlook", by walk_at "zlook", by walk_at "zlook"⟩
 · walk_at "zs"
   have fin := HB.fin hlt
   exact h _ _ _ _ (by k_asm) (by k_asm) fin.1 fin.2
theorem bisL4_ok {a q : Addr} {vs : List Value} {ks : List Int} {n : Nat} {x : Int} {t u : Tok} (C : Cx w 350 A L h₀) (hh : A.handled = none) (F : Fr h₀ L s.heap m) (N : News h₀ L s.heap news) (hm : (a, listOf vs.toArray n) ∈ news) (hl : vs.length ≤ 1000)
   (K : KeyOn w q news vs ks) (hs : Rises ks)
   (h : ∀ h' tk t' (r : Nat), Fr h₀ L h' m → News h₀ L h' news → r ≤ ks.length → (∀ (i : Nat) (k : Int), ks[i]? = some k → (i < r ↔ k < x)) → Q (.int r t') { s with heap := h', toks := tk }) :
   wpAny (model PySem.Challenge.rw_wy0029_01.row.prog w) A (call (.ref 50) [.ref a, .int x t, .int 0 u, .none] [("key", .ref q)]) Q E s :=
 bisL_ok C hh F N hm hl K hs (fun _ _ _ _ e X => binds_lk e (by k_is) (by first | exact BindsTo.of_eq rfl | exact binds_K (by k_in) rfl (by k_is) rfl rfl rfl | (refine' kp_binds ?kx ?ke; (case kx => k_in); (case ke => exact fun _ => rfl)))) h
theorem bisL2_ok {a q : Addr} {vs : List Value} {ks : List Int} {n : Nat} {x : Int} {t : Tok} (C : Cx w 350 A L h₀) (hh : A.handled = none) (F : Fr h₀ L s.heap m) (N : News h₀ L s.heap news) (hm : (a, listOf vs.toArray n) ∈ news) (hl : vs.length ≤ 1000)
   (K : KeyOn w q news vs ks) (hs : Rises ks)
   (h : ∀ h' tk t' (r : Nat), Fr h₀ L h' m → News h₀ L h' news → r ≤ ks.length → (∀ (i : Nat) (k : Int), ks[i]? = some k → (i < r ↔ k < x)) → Q (.int r t') { s with heap := h', toks := tk }) :
   wpAny (model PySem.Challenge.rw_wy0029_01.row.prog w) A (call (.ref 50) [.ref a, .int x t] [("key", .ref q)]) Q E s :=
 bisL_ok C hh F N hm hl K hs (fun _ _ _ _ e X => binds_lk e (by k_is) (by first | exact binds_K (by k_in) rfl (by k_is) rfl rfl rfl | (refine' kp_binds ?kx ?ke; (case kx => k_in); (case ke => exact fun _ => rfl)))) h
end
end
section
section
variable {w : World} {A : Around} {h₀ : Heap} {L : Addr} {m : Str → Option Value} {rest : List (Addr × Obj)} {s : Shared} {E : Value → Shared → Prop} {Q : Value → Shared → Prop}
theorem kl_ins_nat (l : List Value) (r : Nat) (y : Value) (h : r ≤ l.length) : kl_ins l (r : Int) y = l.take r ++ y :: l.drop r := by
 unfold kl_ins
 rw [if_neg (Int.not_ofNat_neg r)]
 have : min ((r : Int).toNat) l.length = r := by exact Nat.min_eq_left h
 rw [this]
theorem fits_nat (r : Nat) (h : r ≤ 1000) : Builtin.List.listFitsIndex (r : Int) = true := by
 unfold Builtin.List.listFitsIndex
 rw [Bool.and_eq_true, decide_eq_true_eq, decide_eq_true_eq]
 omega
set_option maxHeartbeats 4000000 in
theorem insR_ok {a q : Addr} {vs : List Value} {ks : List Int} {n : Nat} {x : Value} {kx : Int} (C : Cx w 340 A L h₀) (hh : A.handled = none) (F : Fr h₀ L s.heap m) (N : News h₀ L s.heap ((a, listOf vs.toArray n) :: rest)) (hr : ∀ p ∈ rest, p.1 ≠ a) (hl : vs.length ≤ 1000)
   (K : KeyOn w q ((a, listOf vs.toArray n) :: rest) vs ks) (Kx : KeyAt w q ((a, listOf vs.toArray n) :: rest) x kx) (hs : Rises ks)
   (h : ∀ h' tk (r : Nat), Fr h₀ L h' m → News h₀ L h' ((a, listOf (vs.take r ++ x :: vs.drop r).toArray (n + 1)) :: rest) → r ≤ ks.length → (∀ (i : Nat) (k : Int), ks[i]? = some k → (i < r ↔ k ≤ kx)) → Q .none { s with heap := h', toks := tk }) :
   wpAny (model PySem.Challenge.rw_wy0029_01.row.prog w) A (call (.ref 23) [.ref a, x] [("key", .ref q)]) Q E s := by
 (((rename Cx _ _ _ _ _ => c0z); (obtain ⟨hdz, huz, hAz, hfz, hkz, Bz, Xz, CT1z, CT2z, Tz⟩ := c0z); (refine lift_around hdz huz hAz ?_); (try refine wpAny_noRaise ?_); (have q0z : (PySem.Challenge.rw_wy0029_01, fun P => (Mine.hd.heap_1 P).length) = (PySem.Challenge.rw_wy0029_01, fun P => (Mine.hd.heap_1 P).length) := by k_fill; rfl); clear q0z); (refine wpAny_call ?_); (refine' code_def ?k1 ?k2 ?k3 ?k4 ?k5 ?kA ?kF ?kK ?k6 ?k7 ?k8 ?k9 ?kB ?_ ?c2 ?c3 ?c4 ?c5; (case kA => exact rfl); (case kF => first | assumption | exact rfl); (case kK => first | assumption | exact rfl); (case k1 => k_asm); (case k2 => k_asm); (case k3 => k_asm); (case k4 => k_asm); (case k5 => k_asm); (case k6 => k_is); (case k7 => k_is); (case k8 => k_room); (case k9 => first | exact BindsTo.of_eq rfl | exact binds_K (by k_in) rfl (by k_is) rfl rfl rfl | (refine' kp_binds ?kx ?ke; (case kx => k_in); (case ke => exact fun _ => rfl))); (case c5 => decide); (case kB => exact locs rfl); (case c2 => exact rfl); (case c3 => exact rfl); (case c4 => exact rfl); k_whole; intro gz' Lz' hz' FGz' Fz' Nz' Bz' Xz' Tz'; (have c1z' := CodeHd.keeps (c := 125) (P := 123) (by assumption) (Fr.keep FGz')); (have c2z' := CodeHd.keeps (c := 108) (P := 104) (by assumption) (Fr.keep FGz')); (try dsimp only); (try k_lift Bz'); (try k_fold)); (refine wpAny_noRaise ?_))
 obtain ⟨Kl, ⟨oc, od, fd, sl, Kq⟩, Kf⟩ := id K
 walk_at "zs"
 refine Kx _ _ _ _ _ _ _ (by exact .mk (Nat.le_of_ble_eq_true rfl) (Nat.le_of_ble_eq_true rfl) rfl rfl rfl (by assumption) (by assumption) (by assumption) (by assumption) (by assumption)) hh (by k_asm) (by k_asm) ?_
 intro h₁ tk₁ t₁ F1 N1
 walk_at "zs"
 refine bisR4_ok (by exact .mk (Nat.le_of_ble_eq_true rfl) (Nat.le_of_ble_eq_true rfl) rfl rfl rfl (by assumption) (by assumption) (by assumption) (by assumption) (by assumption)) hh (by k_asm) (by k_asm) (by k_mem) hl K hs ?_
 intro h₂ tk₂ t₂ r F2 N2 hr1 hr2
 walk_at "zs"
 refine kl_insert (l := vs.take r ++ x :: vs.drop r) (by k_asm) (by k_asm) (fits_nat r (by omega)) (kl_ins_nat vs r x (by omega)) (by k_upd) (by walk_at "zsize") ?_
 intro h₃ F3 N3
 walk_at "zs"
 exact h _ _ r (by k_asm) (by k_asm) hr1 hr2
set_option maxHeartbeats 4000000 in
theorem insL_ok {a q : Addr} {vs : List Value} {ks : List Int} {n : Nat} {x : Value} {kx : Int} (C : Cx w 340 A L h₀) (hh : A.handled = none) (F : Fr h₀ L s.heap m) (N : News h₀ L s.heap ((a, listOf vs.toArray n) :: rest)) (hr : ∀ p ∈ rest, p.1 ≠ a) (hl : vs.length ≤ 1000)
   (K : KeyOn w q ((a, listOf vs.toArray n) :: rest) vs ks) (Kx : KeyAt w q ((a, listOf vs.toArray n) :: rest) x kx) (hs : Rises ks)
   (h : ∀ h' tk (r : Nat), Fr h₀ L h' m → News h₀ L h' ((a, listOf (vs.take r ++ x :: vs.drop r).toArray (n + 1)) :: rest) → r ≤ ks.length → (∀ (i : Nat) (k : Int), ks[i]? = some k → (i < r ↔ k < kx)) → Q .none { s with heap := h', toks := tk }) :
   wpAny (model PySem.Challenge.rw_wy0029_01.row.prog w) A (call (.ref 41) [.ref a, x] [("key", .ref q)]) Q E s := by
 (((rename Cx _ _ _ _ _ => c0z); (obtain ⟨hdz, huz, hAz, hfz, hkz, Bz, Xz, CT1z, CT2z, Tz⟩ := c0z); (refine lift_around hdz huz hAz ?_); (try refine wpAny_noRaise ?_); (have q0z : (PySem.Challenge.rw_wy0029_01, fun P => (Mine.hd.heap_1 P).length) = (PySem.Challenge.rw_wy0029_01, fun P => (Mine.hd.heap_1 P).length) := by k_fill; rfl); clear q0z); (refine wpAny_call ?_); (refine' code_def ?k1 ?k2 ?k3 ?k4 ?k5 ?kA ?kF ?kK ?k6 ?k7 ?k8 ?k9 ?kB ?_ ?c2 ?c3 ?c4 ?c5; (case kA => exact rfl); (case kF => first | assumption | exact rfl); (case kK => first | assumption | exact rfl); (case k1 => k_asm); (case k2 => k_asm); (case k3 => k_asm); (case k4 => k_asm); (case k5 => k_asm); (case k6 => k_is); (case k7 => k_is); (case k8 => k_room); (case k9 => first | exact BindsTo.of_eq rfl | exact binds_K (by k_in) rfl (by k_is) rfl rfl rfl | (refine' kp_binds ?kx ?ke; (case kx => k_in); (case ke => exact fun _ => rfl))); (case c5 => decide); (case kB => exact locs rfl); (case c2 => exact rfl); (case c3 => exact rfl); (case c4 => exact rfl); k_whole; intro gz' Lz' hz' FGz' Fz' Nz' Bz' Xz' Tz'; (have c1z' := CodeHd.keeps (c := 125) (P := 123) (by assumption) (Fr.keep FGz')); (have c2z' := CodeHd.keeps (c := 108) (P := 104) (by assumption) (Fr.keep FGz')); (try dsimp only); (try k_lift Bz'); (try k_fold)); (refine wpAny_noRaise ?_))
 obtain ⟨Kl, ⟨oc, od, fd, sl, Kq⟩, Kf⟩ := id K
 walk_at "zs"
 refine Kx _ _ _ _ _ _ _ (by exact .mk (Nat.le_of_ble_eq_true rfl) (Nat.le_of_ble_eq_true rfl) rfl rfl rfl (by assumption) (by assumption) (by assumption) (by assumption) (by assumption)) hh (by k_asm) (by k_asm) ?_
 intro h₁ tk₁ t₁ F1 N1
 walk_at "zs"
 refine bisL4_ok (by exact .mk (Nat.le_of_ble_eq_true rfl) (Nat.le_of_ble_eq_true rfl) rfl rfl rfl (by assumption) (by assumption) (by assumption) (by assumption) (by assumption)) hh (by k_asm) (by k_asm) (by k_mem) hl K hs ?_
 intro h₂ tk₂ t₂ r F2 N2 hr1 hr2
 walk_at "zs"
 refine kl_insert (l := vs.take r ++ x :: vs.drop r) (by k_asm) (by k_asm) (fits_nat r (by omega)) (kl_ins_nat vs r x (by omega)) (by k_upd) (by walk_at "zsize") ?_
 intro h₃ F3 N3
 walk_at "zs"
 exact h _ _ r (by k_asm) (by k_asm) hr1 hr2
end
end
section
namespace FA
open Builtin Builtin.ObjectAttr
theorem ga : typeLookup (.type "function") "__getattribute__" = pure (some (.builtin "object.__getattribute__")) := by rw [typeLookup_type, builtinLookup_eq_fast]; kernel_rfl
theorem gattr : typeLookup (.type "function") "__getattr__" = pure none := by rw [typeLookup_type, builtinLookup_eq_fast]; kernel_rfl
theorem slot_ga : Slot "function" "__getattribute__" "object.__getattribute__" :=
 .of (owner := "object") (n := "__getattribute__") ga (by decide +kernel) (by decide +kernel) (by decide +kernel)
   (by first | exact .inl (by decide +kernel) | exact .inr (by decide +kernel)) (by rw [isSubtype_type]; kernel_rfl)
theorem slot_sa : Slot "function" "__setattr__" "object.__setattr__" :=
 .of (owner := "object") (n := "__setattr__") (by rw [typeLookup_type, builtinLookup_eq_fast]; kernel_rfl) (by decide +kernel) (by decide +kernel) (by decide +kernel)
   (by first | exact .inl (by decide +kernel) | exact .inr (by decide +kernel)) (by rw [isSubtype_type]; kernel_rfl)
theorem entry_ga : entryFor table "object.__getattribute__" = some Builtin.«object.__getattribute__» := entryFor_of_tree (by kernel_rfl)
theorem entry_sa : entryFor table "object.__setattr__" = some Builtin.«object.__setattr__» := entryFor_of_tree (by kernel_rfl)
theorem no_kids : typeLookup (.type "function") "kids" = pure none := by rw [typeLookup_type, builtinLookup_eq_fast]; kernel_rfl
theorem no_tag : typeLookup (.type "function") "tag" = pure none := by rw [typeLookup_type, builtinLookup_eq_fast]; kernel_rfl
theorem no_attrib : typeLookup (.type "function") "attrib" = pure none := by rw [typeLookup_type, builtinLookup_eq_fast]; kernel_rfl
theorem no_append : typeLookup (.type "function") "append" = pure none := by rw [typeLookup_type, builtinLookup_eq_fast]; kernel_rfl
theorem no_make : typeLookup (.type "function") "makeelement" = pure none := by rw [typeLookup_type, builtinLookup_eq_fast]; kernel_rfl
theorem mro_fn : mroOf (.type "function") = pure [.type "function", .type "object"] := by rw [mroOf_type]; kernel_rfl
theorem sa_args (a b c : Value) : argsOk "object.__setattr__" ⟨[a, b, c], []⟩ := by
 unfold argsOk; rw [signature?_of (id := "object.__setattr__") (n := ['_', '_', 'r', 't', 't', 'a', 't', 'e', 's', '_', '_']) (o := ['t', 'c', 'e', 'j', 'b', 'o']) (by kernel_rfl) PySem.F.owner_object]; kernel_rfl
theorem has : typeHasDict (.type "function") = true := by kernel_rfl
end FA
end
section
namespace FA
open Builtin Builtin.ObjectAttr
section
variable {prog : Program} {w : World} {A : Around} {E : Value → Shared → Prop} {s : Shared} {t d : Addr} {o : Obj} {md : Str → Option Value} {name : Str} {v : Value} {expr : Bool} {fd : FuncData} {Q : Value → Shared → Prop}
theorem get (ht : s.heap.get? t = some o) (hc : o.cls = .type "function") (hf : o.data = .func fd) (hd : o.dict = some d) (hn : s.heap.Ns d md) (hl : md name = some v) (hv : handedIn v = true)
   (hno : typeLookup (.type "function") name = pure none) (h : Q v { s with toks := s.toks + 1 }) : wpAny (model prog w) A (getAttr (.ref t) name expr) Q E s := by
 unfold getAttr getAttrBy
 have hT : s.TypeIs (.ref t) "function" := ⟨o, ht, hc⟩
 refine wpAny_bind (wpAny_mkText (wpAny_holding (wpAny_bind (wpAny_typeOf (T := "function") ⟨o, ht, hc⟩ ?_))))
 refine wpAny_bind (wpAny_of_eq ga ?_)
 show wpAny _ _ (getAttrByItsOwn _ _ _ _ _ _) _ _ _
 unfold getAttrByItsOwn
 refine wpAny_bind (wpAny_pure (wpAny_bind (wpAny_attempt (wpAny_holding ?_))))
 unfold callGetattribute
 have e0 : (expr && onTheHeap (.builtin "object.__getattribute__")) = false := by cases expr <;> rfl
 rw [e0]
 show wpAny _ _ (boundAndCalled _ _ _) _ _ _
 unfold boundAndCalled
 rw [slot_ga.bind]
 refine wpAny_bind (wpAny_pure ?_)
 refine wpAny_call (codeAny_call_builtin slot_ga.plain entry_ga (slot_ga.check _ _ _ _ _ _ _ _ (by exact hT) (by exact PySem.F.args_object_getattribute_2 _ _) ?_))
 unfold Builtin.«object.__getattribute__»
 refine wpAny_bind (wpAny_of_eq (a := (Value.ref t, [Value.str name s.toks])) rfl ?_)
 refine wpAny_bind (wpAny_of_eq (a := name) rfl ?_)
 refine wpAny_bind (wpAny_typeOf (T := "function") (by exact hT) ?_)
 unfold find
 refine wpAny_bind (wpAny_bind (wpAny_of_eq hno ?_))
 refine wpAny_bind (wpAny_of_eq (a := none) rfl ?_)
 refine wpAny_bind (wpAny_of_eq (a := none) rfl ?_)
 obtain ⟨oc, odi, oda, osl⟩ := o
 dsimp only at hc hf hd
 subst hc hf hd
 unfold ownThenClass inOwnDict ObjectAttr.ownDict
 refine wpAny_bind (wpAny_bind (wpAny_bind (wpAny_loadPart (by exact ht) ?_)))
 show wpAny _ _ (instanceDict t false) _ _ _
 unfold instanceDict
 refine wpAny_bind (wpAny_loadPart (by exact ht) ?_)
 refine wpAny_pure (a := some d) ?_
 show wpAny _ _ (nsGet d name) _ _ _
 refine wpAny_nsGet (by exact hn) ?_
 rw [hl]
 refine wpAny_bind (wpAny_rule (wpAny_pure (wpAny_pure ?_)))
 show wpAny _ _ (handedOut v) _ _ _
 rw [handedOut_of hv]
 exact wpAny_pure h
theorem method {pl : Sem Bool} {Q : Value × List Value → Shared → Prop} (ht : s.heap.get? t = some o) (hc : o.cls = .type "function") (hf : o.data = .func fd) (hd : o.dict = some d) (hn : s.heap.Ns d md) (hl : md name = some v) (hv : handedIn v = true)
   (hno : typeLookup (.type "function") name = pure none) (h : Q (v, []) { s with toks := s.toks + 1 }) : wpAny (model prog w) A (getMethod (.ref t) name pl) Q E s := by
 unfold getMethod
 have hT : s.TypeIs (.ref t) "function" := ⟨o, ht, hc⟩
 refine wpAny_bind (wpAny_bind (wpAny_typeOf (T := "function") hT (wpAny_of_eq ga ?_)))
 dsimp only
 refine bm_if_false (by decide +kernel) ?_
 refine wpAny_bind (wpAny_bind (wpAny_typeOf (T := "function") hT (wpAny_of_eq gattr ?_)))
 refine bm_if_false rfl ?_
 refine wpAny_bind (wpAny_bind (wpAny_typeOf (T := "function") hT (wpAny_of_eq hno ?_)))
 dsimp only
 exact wpAny_bind (get ht hc hf hd hn hl hv hno (wpAny_pure h))
end
noncomputable def DOb (od : Obj) (md : Str → Option Value) (k : Nat) : Prop := ∃ es n, od = dictOf es n ∧ (∀ e ∈ es, ∃ x t, e.key = .str x t) ∧ (∀ x, (es.find? (·.key.isStr x)).map (·.val) = md x) ∧ es.length ≤ k
theorem DOb.ns {h : Heap} {d : Addr} {od : Obj} {md : Str → Option Value} {k : Nat} (D : DOb od md k) (hd : h.get? d = some od) : h.Ns d md := by
 refine x2a4 D ?_; clear D; rintro es n rfl hk hf _
 refine ⟨_, _, n, hd, rfl, ?_, fun x => ?_⟩
 · intro e he; exact hk e (by simpa using he)
 · rw [← hf x]
   unfold nsFind findBy
   rw [List.find?_toArray]
theorem DOb.empty : DOb (dictOf [] 0) (fun _ => none) 0 := ⟨[], 0, rfl, (fun _ h => nomatch h), (fun _ => rfl), Nat.le_refl _⟩
theorem putL_keys (name : Str) (h : Int) (t : Tok) (v : Value) : ∀ es : List DictEntry, (∀ e ∈ es, ∃ x t, e.key = .str x t) → ∀ e ∈ putL name h (.str name t) v es, ∃ x t, e.key = .str x t
 | [], _, e, he => by rcases List.mem_singleton.mp he with rfl; exact ⟨_, _, rfl⟩
 | a :: r, hk, e, he => by
   unfold putL at he
   split at he
   · rcases List.mem_cons.mp he with rfl | he
     · exact hk a (.head _)
     · exact hk e (.tail _ he)
   · rcases List.mem_cons.mp he with rfl | he
     · exact hk _ (.head _)
     · exact putL_keys name h t v r (fun e h => hk e (.tail _ h)) e he
theorem putL_len (name : Str) (h : Int) (k v : Value) : ∀ es : List DictEntry, (putL name h k v es).length ≤ es.length + 1
 | [] => Nat.le_refl _
 | a :: r => by
   unfold putL
   split
   · exact Nat.le_succ _
   · exact Nat.succ_le_succ (putL_len name h k v r)
theorem isStr_self (name : Str) (t : Tok) : (Value.str name t).isStr name = true := by show (name == name) = true; exact beq_self_eq_true _
theorem putL_get (name : Str) (h : Int) (t : Tok) (v : Value) : ∀ (es : List DictEntry), (∀ e ∈ es, ∃ x t, e.key = .str x t) → ∀ x,
   ((putL name h (.str name t) v es).find? (·.key.isStr x)).map (·.val) = if x = name then some v else (es.find? (·.key.isStr x)).map (·.val)
 | [], _, x => by
   show (List.find? _ [_]).map _ = _
   rw [List.find?_cons]
   by_cases q : x = name
   · subst q
     dsimp only
     rw [isStr_self, if_pos rfl]; rfl
   · have : (Value.str name t).isStr x = false := by show (name == x) = false; exact beq_eq_false_iff_ne.mpr (Ne.symm q)
     dsimp only
     rw [this, if_neg q]
 | a :: r, hk, x => by
   obtain ⟨y, ty, hy⟩ := hk a (.head _)
   unfold putL
   split
   · rename_i q
     have hyn : y = name := by
       rw [hy] at q; exact beq_iff_eq.mp q
     rw [List.find?_cons, List.find?_cons]
     dsimp only
     by_cases qx : x = name
     · subst qx; rw [q, if_pos rfl]; rfl
     · have : a.key.isStr x = false := by rw [hy]; show (y == x) = false; exact beq_eq_false_iff_ne.mpr (by rw [hyn]; exact Ne.symm qx)
       rw [this, if_neg qx]
   · rename_i q
     rw [List.find?_cons, List.find?_cons]
     cases qa : a.key.isStr x with
     | true =>
       dsimp only
       have : x ≠ name := by rintro rfl; exact q qa
       rw [if_neg this]
     | false => exact putL_get name h t v r (fun e h => hk e (.tail _ h)) x
theorem DOb.put {od : Obj} {md : Str → Option Value} {k : Nat} (D : DOb od md k) (name : Str) (h : Int) (t : Tok) (v : Value) :
   DOb (Obj.putName name h (.str name t) v od) (fun x => if x = name then some v else md x) (k + 1) := by
 refine x2a4 D ?_; clear D; rintro es n rfl hk hf hl
 rw [putName_dict]
 refine ⟨_, _, rfl, putL_keys _ _ _ _ _ hk, fun x => ?_, Nat.le_trans (putL_len _ _ _ _ _) (Nat.succ_le_succ hl)⟩
 rw [putL_get name h t v es hk x, hf x]
theorem DOb.noref {es : List DictEntry} (hk : ∀ e ∈ es, ∃ x t, e.key = .str x t) : es.any (·.refKey) = false := by
 rw [List.any_eq_false]
 intro e he
 obtain ⟨x, t, q⟩ := hk e he
 simp [DictEntry.refKey, q]
section
variable {prog : Program} {w : World} {A : Around} {E : Value → Shared → Prop} {s : Shared} {h₀ : Heap} {L t d : Addr} {m : Str → Option Value} {o od : Obj} {md : Str → Option Value} {name : Str} {v : Value} {fd : FuncData} {k : Nat} {rest : List (Addr × Obj)}
theorem refuse (ht : s.heap.get? t = some o) (hc : o.cls = .type "function") {Q : Unit → Shared → Prop} (h : Q () s) : wpAny (model prog w) A (refuseIfOverridden (.ref t) "__setattr__") Q E s := by
 unfold refuseIfOverridden
 refine wpAny_bind (wpAny_typeOf (T := "function") ⟨o, ht, hc⟩ ?_)
 refine wpAny_bind (wpAny_of_eq mro_fn ?_)
 refine wpAny_of_eq (a := ()) ?_ h
 kernel_rfl
theorem nsput {P : Fin → Shared → Prop} {E' : Value → Shared → Prop} (F : Fr h₀ L s.heap m) (N : News h₀ L s.heap ((t, o) :: (d, od) :: rest)) (htd : t ≠ d) (hr : ∀ p ∈ rest, p.1 ≠ d) (D : DOb od md k) (hz : k ≤ 1000) {tk : Tok}
   (h : ∀ h' od', Fr h₀ L h' m → News h₀ L h' ((t, o) :: (d, od') :: rest) → DOb od' (fun x => if x = name then some v else md x) (k + 1) → P (.done (.ret .none)) { s with heap := h', toks := s.toks + 1 }) :
   wpAny (model prog w) A (storeInDict d (.str name tk) name v) P E' s := by
 unfold storeInDict
 refine wpAny_bind (wpAny_of_eq (a := ()) rfl ?_)
 have hd := (N (d, od) (.tail _ (.head _))).1
 have D' := D.put name (PyData.keyHash w.params name) s.toks v
 refine x2a4 D ?_; clear D; rintro es n rfl hk hf hl
 obtain ⟨U1, U2⟩ := news_upd (pre := [(t, o)]) (f := Obj.putName name (PyData.keyHash w.params name) (.str name s.toks) v) F N (by intro p hp; rcases List.mem_singleton.mp hp with rfl; exact htd) hr rfl (by rw [putName_dict]; rfl)
 unfold nsSet
 refine wpAny_bind (wpAny_bind (wpAny_bind (wpAny_askSetting (wpAny_pure (wpAny_bind (wpAny_mkText (wpAny_bind (wpAny_loadPart hd ?_))))))))
 dsimp only
 rw [aRefKeyMayBeTheName_at, show (es.toArray.any fun x => x.refKey) = false from by rw [← Array.any_toList]; exact DOb.noref hk, Bool.and_false]
 refine bm_if_false rfl ?_
 refine wpAny_updatePart hd ?_
 refine wpAny_bind (wpAny_lookBehind (U2 _ (.tail _ (.head _))).1 ?_ (wpAny_pure ?_))
 · rw [putName_dict]
   refine pastItsLine_dict ?_
   rw [List.size_toArray]
   have := putL_len name (PyData.keyHash w.params name) (.str name s.toks) v es
   have : sizeLine = 16777216 := rfl
   omega
 · exact h _ _ U1 U2 D'
theorem setCall {R : Unit → Shared → Prop} (ht : s.heap.get? t = some o) (hc : o.cls = .type "function") (hno : typeLookup (.type "function") name = pure none)
   (h : ∀ tk, wpAny (model prog w) A.in1 (storeInOwnDict (.ref t) (.type "function") (.str name tk) name v false) (fun fin s' => match fin with | .done f => (match f with | .ret _ => R () s' | _ => False) | .again c' => False) (fun e s' => E e s') { s with toks := s.toks + 1 }) :
   wpAny (model prog w) A (setAttr (.ref t) name v) R E s := by
 unfold setAttr
 have hT : s.TypeIs (.ref t) "function" := ⟨o, ht, hc⟩
 refine wpAny_bind (wpAny_mkText ?_)
 unfold callSpecial?
 refine wpAny_bind (wpAny_bind (wpAny_bind (wpAny_typeOf (T := "function") (by exact hT) (wpAny_of_eq slot_sa.lookup ?_))))
 refine wpAny_holding ?_
 rw [slot_sa.bind]
 refine wpAny_bind (wpAny_pure (wpAny_bind ?_))
 refine wpAny_call (codeAny_call_builtin slot_sa.plain entry_sa (slot_sa.check _ _ _ _ _ _ _ _ (by exact hT) (by exact sa_args _ _ _) ?_))
 rw [show (Builtin.«object.__setattr__» ⟨[Value.ref t] ++ [Value.str name s.toks, v], []⟩) = _ from osa_eq _ _ _ _]
 refine wpAny_bind (refuse (by exact ht) hc (wpAny_bind (wpAny_typeOf (T := "function") (by exact hT) (wpAny_bind (wpAny_of_eq hno (wpAny_bind (wpAny_of_eq (a := none) rfl ?_)))))))
 refine wpAny_mono (h s.toks) (fun fin s' z => ?_) fun _ _ z => z
 cases fin with
 | again => exact z.elim
 | done f => cases f <;> first | exact wpAny_pure (wpAny_pure z) | exact z.elim
theorem set1 {Q : Unit → Shared → Prop} (F : Fr h₀ L s.heap m) (N : News h₀ L s.heap ((t, o) :: (d, od) :: rest)) (hc : o.cls = .type "function") (hf : o.data = .func fd) (hd : o.dict = some d)
   (htd : t ≠ d) (hr : ∀ p ∈ rest, p.1 ≠ d) (D : DOb od md k) (hz : k ≤ 1000) (hno : typeLookup (.type "function") name = pure none)
   (h : ∀ h' tk od', Fr h₀ L h' m → News h₀ L h' ((t, o) :: (d, od') :: rest) → DOb od' (fun x => if x = name then some v else md x) (k + 1) → Q () { s with heap := h', toks := tk }) :
   wpAny (model prog w) A (setAttr (.ref t) name v) Q E s := by
 have ht := (N (t, o) (.head _)).1
 refine setCall ht hc hno fun tk => ?_
 unfold storeInOwnDict
 refine wpAny_bind (wpAny_of_eq (a := ()) rfl ?_)
 refine bm_if_false rfl ?_
 unfold ownDictForStores instanceDict
 obtain ⟨oc, odi, oda, osl⟩ := o
 dsimp only at hc hf hd
 subst hc hf hd
 refine wpAny_bind (wpAny_bind (wpAny_loadPart (by exact ht) ?_))
 refine wpAny_pure (a := some d) ?_
 dsimp only
 refine nsput (s := { s with toks := s.toks + 1 }) F N htd hr D hz fun h' od' F' N' D' => ?_
 exact h h' _ od' F' N' D'
theorem news_push {h : Heap} {ob : Obj} {news : List (Addr × Obj)} (F : Fr h₀ L h m) (N : News h₀ L h news) (hfr : ob.isFreed = false) : Fr h₀ L (h.push ob) m ∧ News h₀ L (h.push ob) ((h.objs.size, ob) :: news) ∧ ∀ p ∈ news, p.1 < h.objs.size := by
 refine ⟨F.push _, fun p hp => ?_, fun p hp => Heap.lt_size (N p hp).1⟩
 rcases List.mem_cons.mp hp with rfl | hp
 · exact ⟨Heap.get?_push_size _ hfr, Nat.ne_of_gt F.ns.lt, Heap.get?_none_of_le (Nat.le_trans F.above (Nat.le_of_lt F.ns.lt))⟩
 · exact ⟨Heap.get?_push_of_some _ (N p hp).1, (N p hp).2⟩
theorem set0 {Q : Unit → Shared → Prop} (F : Fr h₀ L s.heap m) (N : News h₀ L s.heap ((t, o) :: rest)) (hc : o.cls = .type "function") (hf : o.data = .func fd) (hd : o.dict = none)
   (hr : ∀ p ∈ rest, p.1 ≠ t) (hno : typeLookup (.type "function") name = pure none)
   (h : ∀ h' tk d od', Fr h₀ L h' m → News h₀ L h' ((t, { o with dict := some d }) :: (d, od') :: rest) → DOb od' (fun x => if x = name then some v else none) 1 → t ≠ d → (∀ p ∈ rest, p.1 < d) → Q () { s with heap := h', toks := tk }) :
   wpAny (model prog w) A (setAttr (.ref t) name v) Q E s := by
 have ht := (N (t, o) (.head _)).1
 refine setCall ht hc hno fun tk => ?_
 unfold storeInOwnDict
 refine wpAny_bind (wpAny_of_eq (a := ()) rfl ?_)
 refine bm_if_false rfl ?_
 unfold ownDictForStores instanceDict
 obtain ⟨oc, odi, oda, osl⟩ := o
 dsimp only at hc hf hd
 subst hc hf hd
 refine wpAny_bind (wpAny_bind (wpAny_loadPart (by exact ht) ?_))
 dsimp only
 rw [has]
 refine bm_if_false rfl ?_
 refine wpAny_bind (wpAny_alloc ?_)
 obtain ⟨F1, N1, l1⟩ := news_push (ob := dictOf [] 0) F N rfl
 have hlt := Heap.lt_size ht
 obtain ⟨F2, N2⟩ := news_upd (d := t) (pre := [(s.heap.objs.size, dictOf [] 0)]) (f := fun o => { o with dict := some s.heap.objs.size }) F1 N1
   (by intro p hp; rcases List.mem_singleton.mp hp with rfl; exact Nat.ne_of_gt hlt) hr rfl rfl
 refine wpAny_bind (wpAny_update (by exact Heap.get?_push_of_some _ ht) ?_)
 refine wpAny_of_eq (a := some s.heap.objs.size) rfl ?_
 dsimp only
 refine nsput (k := 0) (od := dictOf [] 0) (t := t) (o := { cls := .type "function", dict := some s.heap.objs.size, data := .func fd, slots := osl }) F2 (fun p hp => N2 p ?_) (Nat.ne_of_lt hlt) (fun p hp => Nat.ne_of_lt (l1 p (.tail _ hp))) DOb.empty (Nat.zero_le _) fun h' od' F' N' D' => ?_
 · rcases List.mem_cons.mp hp with rfl | hp
   · exact .tail _ (.head _)
   · rcases List.mem_cons.mp hp with rfl | hp
     · exact .head _
     · exact .tail _ (.tail _ hp)
 · exact h h' _ _ od' F' N' D' (Nat.ne_of_lt hlt) fun p hp => l1 p (.tail _ hp)
end
end FA
end
section
structure Src (prog : Program) (w : World) (A : Around) (target : Expr) (I : Addr) (n : Nat) (ow : List Addr) (need : List (Addr × Obj)) (P : Nat → Value → List (Addr × Obj) → Nat → Nat → Prop) (O : Nat → List (Addr × Obj) → Prop) : Prop where
 own : ∀ i o, O i o → ∀ p ∈ o, p.1 ∈ ow
 live : ∀ i o, O i o → ∀ a ∈ ow, ∃ ob, (a, ob) ∈ o
 item : ∀ i o rest h₀ L m (s : Shared) (Q : Value → Shared → Prop) (E : Value → Shared → Prop), O i o → i < n → (∀ p ∈ need, p ∈ rest) → (∀ p ∈ rest, p.1 ∉ ow) → Fr h₀ L s.heap m → News h₀ L s.heap (o ++ rest) →
   (∀ v x o' h' tk, P i v x s.toks tk → O (i + 1) o' → (∀ p ∈ x, p.1 ∉ ow ∧ ∀ q ∈ rest, p.1 ≠ q.1) → Fr h₀ L h' m → News h₀ L h' (x ++ (o' ++ rest)) → Q v { s with heap := h', toks := tk }) →
   wpAny (model prog w) A (pyNext (.ref I)) (fun r s₁ => ∃ v, r = some v ∧ wpAny (model prog w) A (letOwnedTupleGo target (.ref I) v) (fun _ s₂ => Q v s₂) E s₁) E s
 done : ∀ o rest h₀ L m (s : Shared) (Q : Option Value → Shared → Prop) (E : Value → Shared → Prop), O n o → (∀ p ∈ need, p ∈ rest) → (∀ p ∈ rest, p.1 ∉ ow) → Fr h₀ L s.heap m → News h₀ L s.heap (o ++ rest) →
   (∀ h' tk, Fr h₀ L h' m → News h₀ L h' rest → Q none { s with heap := h', toks := tk }) → wpAny (model prog w) A (pyNext (.ref I)) Q E s
 self : ∀ i o rest h₀ L (s : Shared) (Q : Value → Shared → Prop) (E : Value → Shared → Prop), O i o → (∀ p ∈ need, p ∈ rest) → News h₀ L s.heap (o ++ rest) → Q (.ref I) s → wpAny (model prog w) A (pyIter (.ref I)) Q E s
structure WalksK (prog : Program) (w : World) (A : Around) (I : Addr) (fp wr : List Addr) (n : Nat) (P : Nat → Value → Nat → Nat → Prop) (St : Nat → Heap → Prop) : Prop where
 sub : ∀ b ∈ wr, b ∈ fp
 frame : ∀ i h h', St i h → (∀ b ∈ fp, ∀ o, h.get? b = some o → h'.get? b = some o) → St i h'
 item : ∀ i (s : Shared) (Q : Option Value → Shared → Prop) (E : Value → Shared → Prop), i < n → St i s.heap →
   (∀ v h' tk, P i v s.toks tk → St (i + 1) h' → (∀ b o, b ∉ wr → s.heap.get? b = some o → h'.get? b = some o) → Q (some v) { s with heap := h', toks := tk }) → wpAny (model prog w) A (pyNext (.ref I)) Q E s
 done : ∀ (s : Shared) (Q : Option Value → Shared → Prop) (E : Value → Shared → Prop), St n s.heap →
   (∀ h' tk, (∀ b o, b ∉ wr → s.heap.get? b = some o → h'.get? b = some o) → Q none { s with heap := h', toks := tk }) → wpAny (model prog w) A (pyNext (.ref I)) Q E s
 self : ∀ i (s : Shared) (Q : Value → Shared → Prop) (E : Value → Shared → Prop), St i s.heap → Q (.ref I) s → wpAny (model prog w) A (pyIter (.ref I)) Q E s
theorem WalksK.of {prog : Program} {w : World} {A : Around} {I : Addr} {fp wr : List Addr} {n : Nat} {P : Nat → Value → Prop} {St : Nat → Heap → Prop} (W : Walks prog w A I fp wr n P St) : WalksK prog w A I fp wr n (fun i v _ _ => P i v) St :=
 ⟨W.sub, W.frame, W.item, W.done, W.self⟩
noncomputable def OwnAt (ow : List Addr) (need : List (Addr × Obj)) (St : Nat → Heap → Prop) (i : Nat) (o : List (Addr × Obj)) : Prop :=
 (∀ p ∈ o, p.1 ∈ ow) ∧ (∀ a ∈ ow, ∃ ob, (a, ob) ∈ o) ∧ ∀ h : Heap, (∀ p ∈ o, h.get? p.1 = some p.2) → (∀ p ∈ need, h.get? p.1 = some p.2) → St i h
theorem OwnAt.of_heap {ow fp : List Addr} {need : List (Addr × Obj)} {St : Nat → Heap → Prop} {i : Nat} {h : Heap} (st : St i h)
   (frame : ∀ h', (∀ b ∈ fp, ∀ o, h.get? b = some o → h'.get? b = some o) → St i h') (hlive : ∀ a ∈ ow, ∃ ob, h.get? a = some ob)
   (hfp : ∀ b ∈ fp, b ∈ ow ∨ ∃ ob, (b, ob) ∈ need) (hn : ∀ p ∈ need, h.get? p.1 = some p.2) :
   ∃ o, OwnAt ow need St i o ∧ ∀ p ∈ o, h.get? p.1 = some p.2 := by
 refine ⟨ow.filterMap fun b => (h.get? b).map fun o => (b, o), ⟨fun p hp => ?_, fun a ha => ?_, fun h' H H' => frame h' fun b hb o e => ?_⟩, fun p hp => ?_⟩
 · obtain ⟨b, hb, e⟩ := List.mem_filterMap.mp hp
   cases hq : h.get? b with
   | none => rw [hq] at e; cases e
   | some o => rw [hq] at e; cases e; exact hb
 · obtain ⟨ob, e⟩ := hlive a ha
   exact ⟨ob, List.mem_filterMap.mpr ⟨a, ha, by rw [e]; rfl⟩⟩
 · rcases hfp b hb with h1 | ⟨ob, h1⟩
   · exact H (b, o) (List.mem_filterMap.mpr ⟨b, h1, by rw [e]; rfl⟩)
   · have := hn _ h1
     have h2 : o = ob := by have := (show h.get? b = some ob from this); rw [e] at this; exact Option.some.inj this
     exact h2 ▸ H' _ h1
 · obtain ⟨b, hb, e⟩ := List.mem_filterMap.mp hp
   cases hq : h.get? b with
   | none => rw [hq] at e; cases e
   | some o => rw [hq] at e; cases e; exact hq
theorem Src.of_walksK {prog : Program} {w : World} {A : Around} {target : Expr} {I : Addr} {fp wr ow : List Addr} {n : Nat} {P : Nat → Value → Nat → Nat → Prop} {St : Nat → Heap → Prop} {need : List (Addr × Obj)} (W : WalksK prog w A I fp wr n P St)
   (hwo : ∀ a ∈ wr, a ∈ ow) (hfp : ∀ b ∈ fp, b ∈ ow ∨ ∃ ob, (b, ob) ∈ need) (hlive : ∀ i h, St i h → ∀ a ∈ ow, ∃ ob, h.get? a = some ob)
   (hgo : ∀ i (s : Shared) v (Q : Unit → Shared → Prop) (E : Value → Shared → Prop), St i s.heap → Q () s → wpAny (model prog w) A (letOwnedTupleGo target (.ref I) v) Q E s) :
   Src prog w A target I n ow need (fun i v x t u => P i v t u ∧ x = []) (OwnAt ow need St) where
 own := fun i o h => h.1
 live := fun i o h => h.2.1
 item := fun i o rest h₀ L m s Q E hO hi hne hoff F N hQ => by
   have st : St i s.heap := hO.2.2 _ (fun p hp => (N p (List.mem_append_left _ hp)).1) (fun p hp => (N p (List.mem_append_right _ (hne p hp))).1)
   refine W.item i s _ E hi st fun v h' tk hP st' hk => ⟨v, rfl, ?_⟩
   have hn' : ∀ p ∈ need, h'.get? p.1 = some p.2 := fun p hp => hk _ _ (fun hb => hoff p (hne p hp) (hwo _ hb)) (N p (List.mem_append_right _ (hne p hp))).1
   obtain ⟨o', hO', hg'⟩ := OwnAt.of_heap (need := need) (ow := ow) st' (fun h'' => W.frame _ _ _ st') (hlive _ _ st') hfp hn'
   have fresh : ∀ a ∈ ow, a ≠ L ∧ h₀.get? a = none := fun a ha => by
     obtain ⟨ob, hm⟩ := hO.2.1 a ha
     exact (N _ (List.mem_append_left _ hm)).2
   refine hgo (i + 1) _ v _ E st' (hQ v [] o' h' tk ⟨hP, rfl⟩ hO' (fun _ hp => nomatch hp) ?_ fun p (hp : p ∈ o' ++ rest) => ?_)
   · exact ⟨F.ns.at' fun ob e => hk L ob (fun hb => (fresh L (hwo _ hb)).1 rfl) e, fun b ob e => hk b ob (fun hb => by rw [(fresh b (hwo _ hb)).2] at e; cases e) (F.keep b ob e), F.above⟩
   · rcases List.mem_append.mp hp with hp | hp
     · exact ⟨hg' p hp, fresh _ (hO'.1 p hp)⟩
     · exact ⟨hk _ _ (fun hb => hoff p hp (hwo _ hb)) (N p (List.mem_append_right _ hp)).1, (N p (List.mem_append_right _ hp)).2⟩
 done := fun o rest h₀ L m s Q E hO hne hoff F N hQ => by
   have st : St n s.heap := hO.2.2 _ (fun p hp => (N p (List.mem_append_left _ hp)).1) (fun p hp => (N p (List.mem_append_right _ (hne p hp))).1)
   have fresh : ∀ a ∈ ow, a ≠ L ∧ h₀.get? a = none := fun a ha => by
     obtain ⟨ob, hm⟩ := hO.2.1 a ha
     exact (N _ (List.mem_append_left _ hm)).2
   refine W.done s Q E st fun h' tk hk => hQ h' tk ?_ fun p hp => ?_
   · exact ⟨F.ns.at' fun ob e => hk L ob (fun hb => (fresh L (hwo _ hb)).1 rfl) e, fun b ob e => hk b ob (fun hb => by rw [(fresh b (hwo _ hb)).2] at e; cases e) (F.keep b ob e), F.above⟩
   · exact ⟨hk _ _ (fun hb => hoff p hp (hwo _ hb)) (N p (List.mem_append_right _ hp)).1, (N p (List.mem_append_right _ hp)).2⟩
 self := fun i o rest h₀ L s Q E hO hne N hQ =>
   W.self i s Q E (hO.2.2 _ (fun p hp => (N p (List.mem_append_left _ hp)).1) (fun p hp => (N p (List.mem_append_right _ (hne p hp))).1)) hQ
theorem Src.of_walks {prog : Program} {w : World} {A : Around} {target : Expr} {I : Addr} {fp wr ow : List Addr} {n : Nat} {P : Nat → Value → Prop} {St : Nat → Heap → Prop} {need : List (Addr × Obj)} (W : Walks prog w A I fp wr n P St)
   (hwo : ∀ a ∈ wr, a ∈ ow) (hfp : ∀ b ∈ fp, b ∈ ow ∨ ∃ ob, (b, ob) ∈ need) (hlive : ∀ i h, St i h → ∀ a ∈ ow, ∃ ob, h.get? a = some ob)
   (hgo : ∀ i (s : Shared) v (Q : Unit → Shared → Prop) (E : Value → Shared → Prop), St i s.heap → Q () s → wpAny (model prog w) A (letOwnedTupleGo target (.ref I) v) Q E s) :
   Src prog w A target I n ow need (fun i v x _ _ => P i v ∧ x = []) (OwnAt ow need St) := Src.of_walksK (.of W) hwo hfp hlive hgo
theorem Src.of_walksT {prog : Program} {w : World} {A : Around} {elts : List Expr} {k : Nat} {pos : Pos} {I : Addr} {fp wr ow : List Addr} {n : Nat} {Pt : Nat → Array Value → Prop} {St : Nat → Heap → Prop} {Mid : Nat → Addr → Heap → Prop} {need : List (Addr × Obj)} (W : WalksT prog w A I fp wr n Pt St Mid)
   (hwo : ∀ a ∈ wr, a ∈ ow) (hfp : ∀ b ∈ fp, b ∈ ow ∨ ∃ ob, (b, ob) ∈ need) (hlive : ∀ i h, St i h → ∀ a ∈ ow, ∃ ob, h.get? a = some ob) :
   Src prog w A (.Tuple elts k pos) I n ow need (fun i v x _ _ => ∃ T vals ob, v = .ref T ∧ x = [(T, ob)] ∧ Pt i vals ∧ ob.cls = .type "tuple" ∧ ∃ z, ob.data = .seq vals z) (OwnAt ow need St) where
 own := fun i o h => h.1
 live := fun i o h => h.2.1
 item := fun i o rest h₀ L m s Q E hO hi hne hoff F N hQ => by
   have st : St i s.heap := hO.2.2 _ (fun p hp => (N p (List.mem_append_left _ hp)).1) (fun p hp => (N p (List.mem_append_right _ (hne p hp))).1)
   have fresh : ∀ a ∈ ow, a ≠ L ∧ h₀.get? a = none := fun a ha => by
     obtain ⟨ob, hm⟩ := hO.2.1 a ha
     exact (N _ (List.mem_append_left _ hm)).2
   have lt : ∀ a ∈ ow, a < s.heap.objs.size := fun a ha => by
     obtain ⟨ob, hm⟩ := hO.2.1 a ha
     exact Heap.lt_size (N _ (List.mem_append_left _ hm)).1
   refine W.item i s _ E hi st fun T vals h₁ tk hP hT hIT hM hk₁ => ⟨_, rfl, ?_⟩
   refine W.go elts k pos i T _ _ E hM fun h' st' hk₂ => ?_
   have hk : ∀ b ob, b ∉ wr → s.heap.get? b = some ob → h'.get? b = some ob := fun b ob hb e => hk₂ b ob hb (hk₁ b ob hb e)
   have hn' : ∀ p ∈ need, h'.get? p.1 = some p.2 := fun p hp => hk _ _ (fun hb => hoff p (hne p hp) (hwo _ hb)) (N p (List.mem_append_right _ (hne p hp))).1
   obtain ⟨o', hO', hg'⟩ := OwnAt.of_heap (need := need) (ow := ow) st' (fun h'' => W.frame _ _ _ st') (hlive _ _ st') hfp hn'
   obtain ⟨ob, hob, hc, z, hd⟩ := hIT
   have hTo : T ∉ ow := fun hm => absurd (lt T hm) (Nat.not_lt.mpr hT)
   refine hQ (.ref T) [(T, ob)] o' h' tk ⟨T, vals, ob, rfl, rfl, hP, hc, z, hd⟩ hO' (fun p hp => by rw [List.mem_singleton.mp hp]; exact ⟨hTo, fun q hq => Nat.ne_of_gt (Nat.lt_of_lt_of_le (Heap.lt_size (N q (List.mem_append_right _ hq)).1) hT)⟩) ?_ fun p hp => ?_
   · exact ⟨F.ns.at' fun ob e => hk L ob (fun hb => (fresh L (hwo _ hb)).1 rfl) e, fun b ob e => hk b ob (fun hb => by rw [(fresh b (hwo _ hb)).2] at e; cases e) (F.keep b ob e), F.above⟩
   · rcases List.mem_append.mp hp with hp | hp
     · rw [List.mem_singleton.mp hp]
       refine ⟨hk₂ T ob (fun hb => hTo (hwo _ hb)) hob, Nat.ne_of_gt (Nat.lt_of_lt_of_le F.ns.lt hT), ?_⟩
       cases hq : h₀.get? T with
       | none => rfl
       | some o'' => exact absurd (Heap.lt_size (F.keep _ _ hq)) (Nat.not_lt.mpr hT)
     · rcases List.mem_append.mp hp with hp | hp
       · exact ⟨hg' p hp, fresh _ (hO'.1 p hp)⟩
       · exact ⟨hk _ _ (fun hb => hoff p hp (hwo _ hb)) (N p (List.mem_append_right _ hp)).1, (N p (List.mem_append_right _ hp)).2⟩
 done := fun o rest h₀ L m s Q E hO hne hoff F N hQ => by
   have st : St n s.heap := hO.2.2 _ (fun p hp => (N p (List.mem_append_left _ hp)).1) (fun p hp => (N p (List.mem_append_right _ (hne p hp))).1)
   have fresh : ∀ a ∈ ow, a ≠ L ∧ h₀.get? a = none := fun a ha => by
     obtain ⟨ob, hm⟩ := hO.2.1 a ha
     exact (N _ (List.mem_append_left _ hm)).2
   refine W.done s Q E st fun h' tk hk => hQ h' tk ?_ fun p hp => ?_
   · exact ⟨F.ns.at' fun ob e => hk L ob (fun hb => (fresh L (hwo _ hb)).1 rfl) e, fun b ob e => hk b ob (fun hb => by rw [(fresh b (hwo _ hb)).2] at e; cases e) (F.keep b ob e), F.above⟩
   · exact ⟨hk _ _ (fun hb => hoff p hp (hwo _ hb)) (N p (List.mem_append_right _ hp)).1, (N p (List.mem_append_right _ hp)).2⟩
 self := fun i o rest h₀ L s Q E hO hne N hQ =>
   W.self i s Q E (hO.2.2 _ (fun p hp => (N p (List.mem_append_left _ hp)).1) (fun p hp => (N p (List.mem_append_right _ (hne p hp))).1)) hQ
inductive ZNextI (h₀ : Heap) (L : Addr) (ow : List Addr) (o : List (Addr × Obj)) (Jn : (Str → Option Value) → List (Addr × Obj) → Prop) (g : Array GenState) (dr : Drawn) (os : OsState) (s' : Shared) : Prop
 | mk (h' : Heap) (tk : Nat) (m₂ : Str → Option Value) (news₂ : List (Addr × Obj)) (hs : s' = ⟨h', g, dr, tk, os⟩) (F : Fr h₀ L h' m₂) (N : News h₀ L h' (o ++ news₂)) (ho : ∀ p ∈ news₂, p.1 ∉ ow) (hJ : Jn m₂ news₂)
noncomputable def ZNext (h₀ : Heap) (L : Addr) (ow : List Addr) (o : List (Addr × Obj)) (Jn : (Str → Option Value) → List (Addr × Obj) → Prop) (s s' : Shared) : Prop := ZNextI h₀ L ow o Jn s.gens s.drawn s.os s'
theorem ZNext.intro {h₀ h' : Heap} {L : Addr} {ow : List Addr} {o news₂ : List (Addr × Obj)} {Jn : (Str → Option Value) → List (Addr × Obj) → Prop} {s : Shared} {tk : Nat} {m₂ : Str → Option Value}
   (F : Fr h₀ L h' m₂) (N : News h₀ L h' (o ++ news₂)) (ho : ∀ p ∈ news₂, p.1 ∉ ow) (hJ : Jn m₂ news₂) : ZNext h₀ L ow o Jn s { s with heap := h', toks := tk } := ⟨_, _, _, _, rfl, F, N, ho, hJ⟩
noncomputable def ZTurn (Nx : Shared → Prop) (R : Result → Shared → Prop) (f : Flow) (s' : Shared) : Prop :=
 match f with
 | .next | .cont => Nx s'
 | .brk => R (.ok .next) s'
 | .ret v => R (.ok (.ret v)) s'
section
variable {prog : Program} {w : World} {A : Around} {h₀ : Heap} {env : Env} {s : Shared} {target : Expr} {I : Addr} {n : Nat} {ow : List Addr} {need : List (Addr × Obj)} {P : Nat → Value → List (Addr × Obj) → Nat → Nat → Prop} {O : Nat → List (Addr × Obj) → Prop}
inductive ZSt (L : Addr) (ow : List Addr) (n : Nat) (O : Nat → List (Addr × Obj) → Prop) (G : Heap → Prop) (J : Nat → Nat → (Str → Option Value) → List (Addr × Obj) → Prop) (s : Shared) (k : Nat) (s' : Shared) : Prop
 | mk (h₀ h' : Heap) (tk : Nat) (m' : Str → Option Value) (news' o' : List (Addr × Obj)) (i : Nat) (hG : G h₀) (hs : s' = { s with heap := h', toks := tk }) (hO : O i o') (F : Fr h₀ L h' m') (N : News h₀ L h' (o' ++ news')) (ho : ∀ p ∈ news', p.1 ∉ ow) (hJ : J i tk m' news') (hi : i ≤ n) (hk : k = n + 1 - i)
omit w A h₀ env target I need P prog in
theorem ZSt.next {L : Addr} {o : List (Addr × Obj)} {i : Nat} {G : Heap → Prop} {J : Nat → Nat → (Str → Option Value) → List (Addr × Obj) → Prop} {s' : Shared} (hO : O (i + 1) o) (hi : i < n) (h : ∃ h₀, G h₀ ∧ ZNext h₀ L ow o (J (i + 1) s'.toks) s s') : ∃ m, m < n + 1 - i ∧ ZSt L ow n O G J s m s' := by
 obtain ⟨g, hG, h₅, tk₅, m₅, news₅, rfl, F₅, N₅, off₅, hJ₅⟩ := h
 exact ⟨n + 1 - (i + 1), Nat.sub_lt_sub_left (Nat.lt_succ_of_lt hi) (Nat.lt_succ_self i), g, h₅, tk₅, m₅, news₅, o, i + 1, hG, rfl, hO, F₅, N₅, off₅, hJ₅, hi, rfl⟩
theorem zforG {R : Result → Shared → Prop} {L : Addr} {body orelse : List Stmt} {m : Str → Option Value} {news o : List (Addr × Obj)} (S : Src prog w A target I n ow need P O)
   (G : Heap → Prop) (J : Nat → Nat → (Str → Option Value) → List (Addr × Obj) → Prop) (hJ : ∀ i t m news, J i t m news → ∀ p ∈ need, p ∈ news)
   (hG : G h₀) (F : Fr h₀ L s.heap m) (N : News h₀ L s.heap (o ++ news)) (hO : O 0 o) (hoff : ∀ p ∈ news, p.1 ∉ ow) (h0 : J 0 s.toks m news)
   (step : ∀ h₀ i v x t₀ o m₁ news₁ h₁ tk₁, G h₀ → i < n → J i t₀ m₁ news₁ → P i v x t₀ tk₁ → t₀ ≤ tk₁ → O (i + 1) o → (∀ p ∈ o, p.1 ∈ ow) → (∀ p ∈ x, p.1 ∉ ow ∧ ∀ q ∈ news₁, p.1 ≠ q.1) → (∀ p ∈ news₁, p.1 ∉ ow) → Fr h₀ L h₁ m₁ → News h₀ L h₁ (x ++ (o ++ news₁)) →
     wpAny (model prog w) A (assign target env v) (fun _ s₂ => wpAny (model prog w) A (execs body env) (fun f s' => tk₁ ≤ s'.toks → ZTurn (fun s' => ∃ h₀, G h₀ ∧ ZNext h₀ L ow o (J (i + 1) s'.toks) s s') R f s') (fun _ _ => False) s₂) (fun _ _ => False) { s with heap := h₁, toks := tk₁ })
   (done : ∀ h₀ h' tk m' news', G h₀ → Fr h₀ L h' m' → News h₀ L h' news' → (∃ t, t ≤ tk ∧ J n t m' news') → wpAny (model prog w) A (execs orelse env) (fun f s₃ => R (.ok f) s₃) (notedBy (model prog w) A env fun e s' => R (.error e) s') { s with heap := h', toks := tk }) :
   codeAny (model prog w) A (.forLoop target (.ref I) body orelse env) R s := by
 refine codeAny_forLoop_any (ZSt L ow n O G J s) ?_ (n + 1) ⟨h₀, s.heap, s.toks, m, news, o, 0, hG, rfl, hO, F, N, hoff, h0, Nat.zero_le _, rfl⟩
 intro k s' H
 obtain ⟨h₀, h', tk, m', news', o', i, hG, rfl, hO', F', N', hoff', hJ', hi, rfl⟩ := H
 by_cases hlt : i < n
 · refine wpAny_mono (wpAny_toks_of (n := tk) (Nat.le_refl _) (S.item i o' news' h₀ L m' { s with heap := h', toks := tk } (fun v s₂ => tk ≤ s₂.toks → wpAny (model prog w) A (assign target env v) (fun _ s₂ => wpAny (model prog w) A (execs body env) (ZTurn (fun s₃ => ∃ m, m < n + 1 - i ∧ ZSt L ow n O G J s m s₃) R) (notedBy (model prog w) A env fun e s' => R (.error e) s') s₂) (notedBy (model prog w) A env fun e s' => R (.error e) s') s₂) (notedBy (model prog w) A env fun e s' => R (.error e) s') hO' hlt (hJ _ _ _ _ hJ') hoff' F' N' fun v x o₂ h₂ tk₂ hP hO₂ hx F₂ N₂ htk => ?_)) (fun r s₁ h₁ => ?_) fun _ _ e => e.2
   · refine wpAny_mono (wpAny_toks_of (n := tk₂) (Nat.le_refl _) (step h₀ i v x tk o₂ m' news' h₂ tk₂ hG hlt hJ' hP htk hO₂ (S.own _ _ hO₂) hx hoff' F₂ N₂)) (fun _ s₃ h₃ => wpAny_mono (wpAny_toks_of h₃.1 h₃.2) (fun f s₄ h₄ => ?_) fun _ _ e => e.2.elim) fun _ _ e => e.2.elim
     replace h₄ := h₄.2 h₄.1
     cases f with
     | next => exact ZSt.next hO₂ hlt h₄
     | cont => exact ZSt.next hO₂ hlt h₄
     | brk => exact h₄
     | ret v => exact h₄
   · obtain ⟨ht, v, rfl, h₁⟩ := h₁
     exact wpAny_mono (wpAny_toks_of ht h₁) (fun _ s₂ h₂ => wpAny_mono (h₂.2 h₂.1) (fun _ s₃ h₃ => wpAny_mono h₃ (fun f s₄ h₄ => by cases f <;> exact h₄) fun _ _ e => e) fun _ _ e => e) fun _ _ e => e.2
 · obtain rfl : i = n := Nat.le_antisymm hi (Nat.le_of_not_lt hlt)
   refine wpAny_with_toks (n := tk) (Nat.le_refl _) (S.done o' news' h₀ L m' _ _ _ hO' (hJ _ _ _ _ hJ') hoff' F' N' fun h₁ tk₁ F₁ N₁ htk => ?_)
   exact done h₀ h₁ tk₁ m' news' hG F₁ N₁ ⟨tk, htk, hJ'⟩
theorem zfor {R : Result → Shared → Prop} {L : Addr} {body orelse : List Stmt} {m : Str → Option Value} {news o : List (Addr × Obj)} (S : Src prog w A target I n ow need P O)
   (J : Nat → (Str → Option Value) → List (Addr × Obj) → Prop) (hJ : ∀ i m news, J i m news → ∀ p ∈ need, p ∈ news)
   (F : Fr h₀ L s.heap m) (N : News h₀ L s.heap (o ++ news)) (hO : O 0 o) (hoff : ∀ p ∈ news, p.1 ∉ ow) (h0 : J 0 m news)
   (step : ∀ i v x t₀ o m₁ news₁ h₁ tk₁, i < n → J i m₁ news₁ → P i v x t₀ tk₁ → O (i + 1) o → (∀ p ∈ o, p.1 ∈ ow) → (∀ p ∈ x, p.1 ∉ ow ∧ ∀ q ∈ news₁, p.1 ≠ q.1) → (∀ p ∈ news₁, p.1 ∉ ow) → Fr h₀ L h₁ m₁ → News h₀ L h₁ (x ++ (o ++ news₁)) →
     wpAny (model prog w) A (assign target env v) (fun _ s₂ => wpAny (model prog w) A (execs body env) (ZTurn (ZNext h₀ L ow o (J (i + 1)) s) R) (fun _ _ => False) s₂) (fun _ _ => False) { s with heap := h₁, toks := tk₁ })
   (done : ∀ h' tk m' news', Fr h₀ L h' m' → News h₀ L h' news' → J n m' news' → wpAny (model prog w) A (execs orelse env) (fun f s₃ => R (.ok f) s₃) (notedBy (model prog w) A env fun e s' => R (.error e) s') { s with heap := h', toks := tk }) :
   codeAny (model prog w) A (.forLoop target (.ref I) body orelse env) R s := by
 refine zforG S (fun g => g = h₀) (fun i _ => J i) (fun i _ => hJ i) rfl F N hO hoff h0 ?_ ?_
 · intro g i v x t₀ o m₁ news₁ h₁ tk₁ hg hi hJ' hP _ hO₁ ho hx hn F1 N1
   subst hg
   exact wpAny_mono (step i v x t₀ o m₁ news₁ h₁ tk₁ hi hJ' hP hO₁ ho hx hn F1 N1) (fun _ s₂ h₂ => wpAny_mono h₂ (fun f s' h₃ _ => by cases f <;> first | exact ⟨_, rfl, h₃⟩ | exact h₃) fun _ _ e => e) fun _ _ e => e
 · intro g h' tk m' news' hg F1 N1 hJ'
   subst hg
   obtain ⟨_, _, hJ'⟩ := hJ'
   exact done h' tk m' news' F1 N1 hJ'
theorem compTurn_at {elt : Expr} {gens : List Comprehension} {iter : Expr} {ifs : List Expr} {scope : Scope} {pos : Pos} {d : Nat} {it acc : Value} (hg : gens[d]? = some ⟨target, iter, ifs, 0⟩) :
   compTurn (.ListComp elt gens scope pos) d it acc env = (do
     standAt iter.pos
     match ← pyNext it with
     | none => pure (.done .next)
     | some v =>
       letOwnedTupleGo target it v
       assign target env v
       let mut ok := true
       for c in ifs do
         if ok then ok ← isTrue c env (eval c env)
       if ok then
         match gens[d + 1]? with
         | some g' =>
           let x ← eval g'.iter env
           standAt g'.iter.pos
           let x ← if g'.is_async != 0 then foldedIterable g'.iter x else foldedSetIterable g'.iter env x
           let _ ← runOwn (.compStart (.ListComp elt gens scope pos) (d + 1) (← holding [x] (if g'.is_async != 0 then asyncIter x else pyIter x)) acc env) env
         | none => (do let _ ← call (.builtin "list.append") [acc, ← eval elt env])
       again (.compLoop (.ListComp elt gens scope pos) d it acc env)) := by
 unfold compTurn
 dsimp only
 rw [hg]
 rfl
noncomputable abbrev compTests (ifs : List Expr) (env : Env) : Sem Bool := forIn ifs true fun c r => if r = true then do let ok ← isTrue c env (eval c env); pure (ForInStep.yield ok) else pure (ForInStep.yield r)
theorem zcs {R : Result → Shared → Prop} {elt : Expr} {gens : List Comprehension} {iter : Expr} {ifs : List Expr} {scope : Scope} {pos : Pos} {d : Nat} {it acc : Value} (hg : gens[d]? = some ⟨target, iter, ifs, 0⟩)
   (h0 : codeAny (model prog w) A (.compLoop (.ListComp elt gens scope pos) d it acc env) R s)
   (h : wpAny (model prog w) A (pyIter it) (fun it' s' => codeAny (model prog w) A (.compLoop (.ListComp elt gens scope pos) d it' acc env) R s') (fun _ _ => False) s) :
   codeAny (model prog w) A (.compStart (.ListComp elt gens scope pos) d it acc env) R s := by
 refine codeAny_of_tree ?_
 show wpAny _ _ ((compStart (.ListComp elt gens scope pos) d it acc env).onRaise (fun x => do noteFrame x env; standAt theWindowsPlace)) _ _ s
 refine wpAny_notedAt ?_
 unfold compStart
 rw [show (clausesOf (.ListComp elt gens scope pos))[d]? = some ⟨target, iter, ifs, 0⟩ from hg]
 show wpAny _ _ (ask >>= _) _ _ s
 refine wpAny_bind (wpAny_askSetting (wpAny_ite ?_))
 split
 · first
     | exact wpAny_bind (wpAny_pure (wpAny_pure (And.intro rfl h0)))
     | exact wpAny_pure (And.intro rfl h0)
 · refine wpAny_bind (wpAny_rule ?_)
   show wpAny _ _ (standAt iter.pos >>= _) _ _ s
   exact wpAny_bind (wpAny_standAt (wpAny_bind (wpAny_mono h (fun it' s' h' => wpAny_pure (And.intro rfl h')) fun _ _ x => x.elim)))
theorem zcl_raw {R : Result → Shared → Prop} {elt : Expr} {gens : List Comprehension} {iter : Expr} {ifs : List Expr} {scope : Scope} {pos : Pos} {d : Nat} {it acc : Value} (hg : gens[d]? = some ⟨target, iter, ifs, 0⟩) (I : Nat → Shared → Prop)
   (turn : ∀ n s, I n s → wpAny (model prog w) A (pyNext it) (fun r s₁ => match r with
     | none => R (.ok .next) s₁
     | some v => wpAny (model prog w) A (letOwnedTupleGo target it v) (fun _ s₀ => wpAny (model prog w) A (assign target env v) (fun _ s₂ =>
         wpAny (model prog w) A (compTests ifs env) (fun ok s₃ => if ok = true then
           (match gens[d + 1]? with
           | some g' => wpAny (model prog w) A (eval g'.iter env) (fun x s₄ => wpAny (model prog w) A (if g'.is_async != 0 then foldedIterable g'.iter x else foldedSetIterable g'.iter env x) (fun x s₄ =>
               wpAny (model prog w) A (if g'.is_async != 0 then asyncIter x else pyIter x) (fun it' s₅ => wpAny (model prog w) A (runOwn (.compStart (.ListComp elt gens scope pos) (d + 1) it' acc env) env) (fun _ s₆ => ∃ m, m < n ∧ I m s₆) (fun _ _ => False) s₅) (fun _ _ => False) s₄) (fun _ _ => False) s₄) (fun _ _ => False) s₃
           | none => wpAny (model prog w) A (eval elt env) (fun y s₄ => wpAny (model prog w) A (call (.builtin "list.append") [acc, y]) (fun _ s₅ => ∃ m, m < n ∧ I m s₅) (fun _ _ => False) s₄) (fun _ _ => False) s₃)
           else ∃ m, m < n ∧ I m s₃) (fun _ _ => False) s₂) (fun _ _ => False) s₀) (fun _ _ => False) s₁) (fun _ _ => False) s)
   (n : Nat) (h : I n s) : codeAny (model prog w) A (.compLoop (.ListComp elt gens scope pos) d it acc env) R s := by
 refine codeAny_loop rfl I (fun n s hI => ?_) n h
 show wpAny _ A ((compTurn (.ListComp elt gens scope pos) d it acc env).onRaise (fun x => do noteFrame x env; theTreesLotGoes x)) _ _ s
 refine wpAny_noted ?_
 rw [compTurn_at hg]
 refine wpAny_bind (wpAny_standAt (wpAny_bind (wpAny_mono (turn n s hI) (fun r s₁ h₁ => ?_) fun _ _ h' => h'.elim)))
 cases r with
 | none => exact wpAny_pure h₁
 | some v =>
   refine wpAny_bind (wpAny_mono h₁ (fun _ s₂ h₂ => ?_) fun _ _ h' => h'.elim)
   refine wpAny_bind (wpAny_mono h₂ (fun _ s₂ h₂ => ?_) fun _ _ h' => h'.elim)
   refine wpAny_bind (wpAny_mono h₂ (fun ok s₃ h₃ => ?_) fun _ _ h' => h'.elim)
   cases ok with
   | false => exact wpAny_pure ⟨rfl, h₃⟩
   | true =>
     rw [if_pos rfl] at h₃ ⊢
     cases hq : gens[d + 1]? with
     | none =>
       rw [hq] at h₃
       exact wpAny_bind (wpAny_bind (wpAny_mono h₃ (fun x s₄ h₄ => wpAny_bind (wpAny_mono h₄ (fun _ s₅ h₅ => wpAny_pure (wpAny_pure ⟨rfl, h₅⟩)) fun _ _ h' => h'.elim)) fun _ _ h' => h'.elim))
     | some g' =>
       rw [hq] at h₃
       refine wpAny_bind (wpAny_mono h₃ (fun x s₄ h₄ => wpAny_bind (wpAny_standAt ?_)) fun _ _ h' => h'.elim)
       dsimp only
       cases hb : (g'.is_async != 0) with
       | true =>
         simp only [hb, if_true] at h₄ ⊢
         refine wpAny_bind (wpAny_mono h₄ (fun x s₄ h₄ => ?_) fun _ _ h' => h'.elim)
         refine wpAny_bind (wpAny_holding (wpAny_mono h₄ (fun it' s₅ h₅ => ?_) fun _ _ h' => h'.elim))
         exact wpAny_bind (wpAny_mono h₅ (fun _ s₆ h₆ => wpAny_pure ⟨rfl, h₆⟩) fun _ _ h' => h'.elim)
       | false =>
         simp only [hb, Bool.false_eq_true, if_false] at h₄ ⊢
         refine wpAny_bind (wpAny_mono h₄ (fun x s₄ h₄ => ?_) fun _ _ h' => h'.elim)
         refine wpAny_bind (wpAny_holding (wpAny_mono h₄ (fun it' s₅ h₅ => ?_) fun _ _ h' => h'.elim))
         exact wpAny_bind (wpAny_mono h₅ (fun _ s₆ h₆ => wpAny_pure ⟨rfl, h₆⟩) fun _ _ h' => h'.elim)
noncomputable def Unp (target : Expr) (v : Value) (names : List Str) (vals : List Value) (led : List (Addr × Obj)) : Prop :=
 (∃ x px, target = .Name x px ∧ names = [x] ∧ vals = [v]) ∨
 (∃ x px y py k tp T ob a b z, target = .Tuple [.Name x px, .Name y py] k tp ∧ names = [x, y] ∧ v = .ref T ∧ (T, ob) ∈ led ∧ ob.cls = .type "tuple" ∧ ob.data = .seq #[a, b] z ∧ vals = [a, b]) ∨
 (∃ x px y py u pu k tp T ob a b c z, target = .Tuple [.Name x px, .Name y py, .Name u pu] k tp ∧ names = [x, y, u] ∧ v = .ref T ∧ (T, ob) ∈ led ∧ ob.cls = .type "tuple" ∧ ob.data = .seq #[a, b, c] z ∧ vals = [a, b, c])
theorem Unp.name {x : Str} {px : Pos} {v : Value} {led : List (Addr × Obj)} : Unp (.Name x px) v [x] [v] led := .inl ⟨x, px, rfl, rfl, rfl⟩
theorem Unp.two {x y : Str} {px py tp : Pos} {k : Nat} {T : Addr} {ob : Obj} {a b : Value} {z : Nat} {led : List (Addr × Obj)} (hm : (T, ob) ∈ led) (hc : ob.cls = .type "tuple") (hd : ob.data = .seq #[a, b] z) :
   Unp (.Tuple [.Name x px, .Name y py] k tp) (.ref T) [x, y] [a, b] led := .inr (.inl ⟨x, px, y, py, k, tp, T, ob, a, b, z, rfl, rfl, rfl, hm, hc, hd, rfl⟩)
theorem Unp.three {x y u : Str} {px py pu tp : Pos} {k : Nat} {T : Addr} {ob : Obj} {a b c : Value} {z : Nat} {led : List (Addr × Obj)} (hm : (T, ob) ∈ led) (hc : ob.cls = .type "tuple") (hd : ob.data = .seq #[a, b, c] z) :
   Unp (.Tuple [.Name x px, .Name y py, .Name u pu] k tp) (.ref T) [x, y, u] [a, b, c] led := .inr (.inr ⟨x, px, y, py, u, pu, k, tp, T, ob, a, b, c, z, rfl, rfl, rfl, hm, hc, hd, rfl⟩)
noncomputable def bindMap : List Str → List Value → (Str → Option Value) → Str → Option Value
 | x :: xs, v :: vs, m => bindMap xs vs (fun y => if y = x then some v else m y)
 | _, _, m => m
theorem zassign {M : Str → Option Value} {E : Value → Shared → Prop} {env : Env} {v : Value} {names : List Str} {vals : List Value} {led : List (Addr × Obj)} {Q : Unit → Shared → Prop} (hh : A.handled = none) (U : Unp target v names vals led)
   (hk : ∀ x ∈ names, env.kindOf x = some .local) (hp : (env.scope.kind == .class || (env.scope.kind == .module && env.locals != env.globals)) = false)
   (hn : s.heap.Ns env.locals M) (hl : ∀ p ∈ led, s.heap.get? p.1 = some p.2)
   (h : ∀ (h' : Heap) (tk : Nat), h'.Ns env.locals (bindMap names vals M) → (∀ b o, b ≠ env.locals → s.heap.get? b = some o → h'.get? b = some o) → Q () { s with heap := h', toks := tk }) :
   wpAny (model prog w) A (assign target env v) Q E s := by
 rcases U with ⟨x, px, rfl, rfl, rfl⟩ | ⟨x, px, y, py, k, tp, T, ob, a, b, z, rfl, rfl, rfl, hm, hc, hd, rfl⟩ | ⟨x, px, y, py, u, pu, k, tp, T, ob, a, b, c, z, rfl, rfl, rfl, hm, hc, hd, rfl⟩
 · exact wpAny_assign_Name (wpAny_storeName_local (hk x (.head _)) hn (fun h' hn' hs => h h' _ hn' fun b o hb e => hs.extBut b o hb e) hp)
 · refine wpAny_assign_Tuple hh ⟨ob, hl _ hm, hc, z, hd⟩ rfl rfl fun h₁ he₁ => ?_
   have hn₁ : h₁.Ns env.locals M := hn.at' fun o e => he₁ _ o (Nat.ne_of_lt hn.lt) e
   have up₁ : ∀ c o, s.heap.get? c = some o → h₁.get? c = some o := fun c o e => he₁ c o (Nat.ne_of_lt (Heap.lt_size e)) e
   show wpAny _ _ (assignInOrder [assign (.Name x px) env, assign (.Name y py) env] [a, b]) _ _ _
   refine assignInOrder_cons (wpAny_assign_Name (wpAny_storeName_local (hk x (.head _)) hn₁ (fun h₂ hn₂ hs₂ => ?_) hp))
   refine assignInOrder_cons (wpAny_assign_Name (wpAny_storeName_local (hk y (.tail _ (.head _))) hn₂ (fun h₃ hn₃ hs₃ => ?_) hp))
   refine assignInOrder_nil ?_
   exact h h₃ _ hn₃ fun c o hc e => hs₃.extBut c o hc (hs₂.extBut c o hc (up₁ c o e))
 · refine wpAny_assign_Tuple hh ⟨ob, hl _ hm, hc, z, hd⟩ rfl rfl fun h₁ he₁ => ?_
   have hn₁ : h₁.Ns env.locals M := hn.at' fun o e => he₁ _ o (Nat.ne_of_lt hn.lt) e
   have up₁ : ∀ c o, s.heap.get? c = some o → h₁.get? c = some o := fun c o e => he₁ c o (Nat.ne_of_lt (Heap.lt_size e)) e
   show wpAny _ _ (assignInOrder [assign (.Name x px) env, assign (.Name y py) env, assign (.Name u pu) env] [a, b, c]) _ _ _
   refine assignInOrder_cons (wpAny_assign_Name (wpAny_storeName_local (hk x (.head _)) hn₁ (fun h₂ hn₂ hs₂ => ?_) hp))
   refine assignInOrder_cons (wpAny_assign_Name (wpAny_storeName_local (hk y (.tail _ (.head _))) hn₂ (fun h₃ hn₃ hs₃ => ?_) hp))
   refine assignInOrder_cons (wpAny_assign_Name (wpAny_storeName_local (hk u (.tail _ (.tail _ (.head _)))) hn₃ (fun h₄ hn₄ hs₄ => ?_) hp))
   refine assignInOrder_nil ?_
   exact h h₄ _ hn₄ fun c o hc e => hs₄.extBut c o hc (hs₃.extBut c o hc (hs₂.extBut c o hc (up₁ c o e)))
inductive CNextI (h₀ : Heap) (L : Addr) (m : Str → Option Value) (ow : List Addr) (C D : Addr) (o : List (Addr × Obj)) (ys : List Value) (Jn : (Str → Option Value) → List (Addr × Obj) → Prop) (g : Array GenState) (dr : Drawn) (os : OsState) (s' : Shared) : Prop
 | mk (h' : Heap) (tk : Nat) (oC : Obj) (m₂ : Str → Option Value) (led news₂ : List (Addr × Obj)) (hs : s' = ⟨h', g, dr, tk, os⟩) (hC : LCg.NsObj oC m₂) (F : Fr h₀ L h' m) (N : News h₀ L h' led) (mC : (C, oC) ∈ led) (mD : (D, listOf ys.toArray ys.length) ∈ led) (mo : ∀ p ∈ o, p ∈ led) (mn : ∀ p ∈ news₂, p ∈ led) (ho : ∀ p ∈ news₂, p.1 ∉ C :: D :: ow) (hJ : Jn m₂ news₂)
noncomputable def CNextM (h₀ : Heap) (L : Addr) (m : Str → Option Value) (ow : List Addr) (C D : Addr) (o : List (Addr × Obj)) (ys : List Value) (Jn : (Str → Option Value) → List (Addr × Obj) → Prop) (s s' : Shared) : Prop := CNextI h₀ L m ow C D o ys Jn s.gens s.drawn s.os s'
theorem CNextM.intro {h₀ h' : Heap} {L : Addr} {m m₂ : Str → Option Value} {ow : List Addr} {C D : Addr} {o led news₂ : List (Addr × Obj)} {ys : List Value} {Jn : (Str → Option Value) → List (Addr × Obj) → Prop} {s : Shared} {tk : Nat} {oC : Obj}
   (hC : LCg.NsObj oC m₂) (F : Fr h₀ L h' m) (N : News h₀ L h' led) (mC : (C, oC) ∈ led) (mD : (D, listOf ys.toArray ys.length) ∈ led) (mo : ∀ p ∈ o, p ∈ led) (mn : ∀ p ∈ news₂, p ∈ led) (ho : ∀ p ∈ news₂, p.1 ∉ C :: D :: ow) (hJ : Jn m₂ news₂) :
   CNextM h₀ L m ow C D o ys Jn s { s with heap := h', toks := tk } := ⟨_, _, _, _, _, _, rfl, hC, F, N, mC, mD, mo, mn, ho, hJ⟩
noncomputable def CNext (h₀ : Heap) (L : Addr) (m : Str → Option Value) (ow : List Addr) (C D : Addr) (o : List (Addr × Obj)) (ys : List Value) (Jn : List (Addr × Obj) → Prop) (s s' : Shared) : Prop := CNextM h₀ L m ow C D o ys (fun _ => Jn) s s'
theorem CNext.intro {h₀ h' : Heap} {L : Addr} {m m₂ : Str → Option Value} {ow : List Addr} {C D : Addr} {o led news₂ : List (Addr × Obj)} {ys : List Value} {Jn : List (Addr × Obj) → Prop} {s : Shared} {tk : Nat} {oC : Obj}
   (hC : LCg.NsObj oC m₂) (F : Fr h₀ L h' m) (N : News h₀ L h' led) (mC : (C, oC) ∈ led) (mD : (D, listOf ys.toArray ys.length) ∈ led) (mo : ∀ p ∈ o, p ∈ led) (mn : ∀ p ∈ news₂, p ∈ led) (ho : ∀ p ∈ news₂, p.1 ∉ C :: D :: ow) (hJ : Jn news₂) :
   CNext h₀ L m ow C D o ys Jn s { s with heap := h', toks := tk } := CNextM.intro hC F N mC mD mo mn ho hJ
theorem fr_but {g L h h' : _} {C : Addr} {m : Str → Option Value} (F : Fr g L h m) (hk : ∀ b o, b ≠ C → h.get? b = some o → h'.get? b = some o) (hC : C ≠ L) (h0 : g.get? C = none) : Fr g L h' m :=
 ⟨F.ns.at' fun o e => hk _ o (Ne.symm hC) e, fun b o e => hk b o (fun q => by rw [q, h0] at e; cases e) (F.keep b o e), F.above⟩
theorem mem_cda {p c d : Addr × Obj} {o news led : List (Addr × Obj)} (mC : c ∈ led) (mD : d ∈ led) (mo : ∀ p ∈ o, p ∈ led) (mn : ∀ p ∈ news, p ∈ led) (hp : p ∈ c :: d :: (o ++ news)) : p ∈ led :=
 (List.mem_cons.mp hp).elim (fun e => e ▸ mC) fun hp => (List.mem_cons.mp hp).elim (fun e => e ▸ mD) fun hp => (List.mem_append.mp hp).elim (mo p) (mn p)
theorem zc_news {g : Heap} {L : Addr} {h₂ h₃ : Heap} {C D : Addr} {oC oC₃ oD : Obj} {x o news : List (Addr × Obj)} (N : News g L h₂ (x ++ (o ++ ((C, oC) :: (D, oD) :: news)))) (hk : ∀ b o, b ≠ C → h₂.get? b = some o → h₃.get? b = some o) (e : h₃.get? C = some oC₃) (hCD : C ≠ D)
   (hx : ∀ p ∈ x, p.1 ≠ C) (ho : ∀ p ∈ o, p.1 ≠ C) (hn : ∀ p ∈ news, p.1 ≠ C) : News g L h₃ ((C, oC₃) :: (D, oD) :: (x ++ (o ++ news))) := by
 have k : ∀ p, p ∈ x ++ (o ++ ((C, oC) :: (D, oD) :: news)) → p.1 ≠ C → h₃.get? p.1 = some p.2 ∧ p.1 ≠ L ∧ g.get? p.1 = none := fun p hp hc => ⟨hk _ _ hc (N p hp).1, (N p hp).2⟩
 have mem : ∀ p, p ∈ (C, oC) :: (D, oD) :: news → p ∈ x ++ (o ++ ((C, oC) :: (D, oD) :: news)) := fun p hp => List.mem_append_right _ (List.mem_append_right _ hp)
 have a1 : (C, oC₃) ∈ (C, oC₃) :: [] := .head _
 intro p hp
 refine (List.mem_cons.mp hp).elim (fun q => q ▸ ⟨e, (N _ (mem _ (.head _))).2⟩) fun hp => (List.mem_cons.mp hp).elim (fun q => q ▸ k _ (mem _ (.tail _ (.head _))) (Ne.symm hCD)) fun hp => (List.mem_append.mp hp).elim (fun hp => k p (List.mem_append_left _ hp) (hx p hp)) fun hp => (List.mem_append.mp hp).elim (fun hp => k p (List.mem_append_right _ (List.mem_append_left _ hp)) (ho p hp)) fun hp => k p (mem _ (.tail _ (.tail _ hp))) (hn p hp)
inductive ZCSt (h₀ : Heap) (L : Addr) (m : Str → Option Value) (ow : List Addr) (C D : Addr) (n : Nat) (O : Nat → List (Addr × Obj) → Prop) (J : Nat → List Value → (Str → Option Value) → List (Addr × Obj) → Prop) (s : Shared) (k : Nat) (s' : Shared) : Prop
 | mk (h' : Heap) (tk : Nat) (oC : Obj) (m₂ : Str → Option Value) (ys : List Value) (news o : List (Addr × Obj)) (i : Nat) (hs : s' = { s with heap := h', toks := tk }) (hO : O i o) (hC : LCg.NsObj oC m₂) (F : Fr h₀ L h' m) (N : News h₀ L h' ((C, oC) :: (D, listOf ys.toArray ys.length) :: (o ++ news))) (hoff : ∀ p ∈ news, p.1 ∉ C :: D :: ow) (hJ : J i ys m₂ news) (hi : i ≤ n) (hk : k = n + 1 - i)
theorem ZCSt.next {h₀ : Heap} {L : Addr} {m : Str → Option Value} {ow : List Addr} {C D : Addr} {n i : Nat} {O : Nat → List (Addr × Obj) → Prop} {J : Nat → List Value → (Str → Option Value) → List (Addr × Obj) → Prop} {s s' : Shared} {o : List (Addr × Obj)} {ys : List Value} (hO : O (i + 1) o) (hi : i < n) (h : CNextM h₀ L m ow C D o ys (J (i + 1) ys) s s') : ∃ k, k < n + 1 - i ∧ ZCSt h₀ L m ow C D n O J s k s' := by
 obtain ⟨h₅, tk₅, oC₅, m₅, led, news₅, hs, hC₅, F₅, N₅, mC, mD, mo, mn, off₅, hJ₅⟩ := h
 exact ⟨n + 1 - (i + 1), Nat.sub_lt_sub_left (Nat.lt_succ_of_lt hi) (Nat.lt_succ_self i), h₅, tk₅, oC₅, m₅, ys, news₅, o, i + 1, hs, hO, hC₅, F₅, fun p hp => N₅ p (mem_cda mC mD mo mn hp), off₅, hJ₅, hi, rfl⟩
theorem zcl_core {R : Result → Shared → Prop} {L : Addr} {m : Str → Option Value} {elt : Expr} {gens : List Comprehension} {iter : Expr} {ifs : List Expr} {scope : Scope} {cl : List (Str × Addr)} {pos : Pos} {d : Nat} {C D : Addr} {oC : Obj} {m₂ : Str → Option Value} {names : List Str} {ys : List Value} {news o : List (Addr × Obj)}
   (hg : gens[d]? = some ⟨target, iter, ifs, 0⟩) (hh : A.handled = none) (S : Src prog w A target I n ow need P O)
   (V : Nat → List Value → List (Addr × Obj) → Prop) (J : Nat → List Value → (Str → Option Value) → List (Addr × Obj) → Prop) (hJ : ∀ i ys m₂ news, J i ys m₂ news → ∀ p ∈ need, p ∈ news)
   (hV : ∀ i v x t u ys m₂ news, i < n → J i ys m₂ news → P i v x t u → ∃ vals, V i vals x ∧ Unp target v names vals (x ++ news))
   (hkind : scope.kind = .function) (hnm : ∀ x ∈ names, scope.names.lookup x = some .local)
   (hCD : C ≠ D) (hC : LCg.NsObj oC m₂) (F : Fr h₀ L s.heap m) (N : News h₀ L s.heap ((C, oC) :: (D, listOf ys.toArray ys.length) :: (o ++ news))) (hO : O 0 o) (hoff : ∀ p ∈ news, p.1 ∉ C :: D :: ow) (hCw : C ∉ ow) (hDw : D ∉ ow) (h0 : J 0 ys m₂ news)
   (B : Nat → List Value → List (Addr × Obj) → Shared → Prop)
   (step : ∀ i vals x o m₂ oC ys news h₁ tk₁, i < n → J i ys m₂ news → V i vals x → (∀ p ∈ o, p.1 ∈ ow) → (∀ a ∈ ow, ∃ ob, (a, ob) ∈ o) → (∀ p ∈ x, p.1 ∉ C :: D :: ow) → (∀ p ∈ news, p.1 ∉ C :: D :: ow) → LCg.NsObj oC (bindMap names vals m₂) → Fr h₀ L h₁ m → News h₀ L h₁ ((C, oC) :: (D, listOf ys.toArray ys.length) :: (x ++ (o ++ news))) →
     wpAny (model prog w) A (compTests ifs (compEnvC scope cl C env)) (fun ok s₃ => if ok = true then B i ys o s₃ else CNextM h₀ L m ow C D o ys (J (i + 1) ys) s s₃) (fun _ _ => False) { s with heap := h₁, toks := tk₁ })
   (hB : ∀ i ys m₂ news o s₃, i < n → J i ys m₂ news → (∀ p ∈ o, p.1 ∈ ow) → O (i + 1) o → B i ys o s₃ → (match gens[d + 1]? with
           | some g' => wpAny (model prog w) A (eval g'.iter (compEnvC scope cl C env)) (fun x s₄ => wpAny (model prog w) A (if g'.is_async != 0 then foldedIterable g'.iter x else foldedSetIterable g'.iter (compEnvC scope cl C env) x) (fun x s₄ =>
               wpAny (model prog w) A (if g'.is_async != 0 then asyncIter x else pyIter x) (fun it' s₅ => wpAny (model prog w) A (runOwn (.compStart (.ListComp elt gens scope pos) (d + 1) it' (.ref D) (compEnvC scope cl C env)) (compEnvC scope cl C env)) (fun _ s₆ => ∃ k, k < n + 1 - i ∧ ZCSt h₀ L m ow C D n O J s k s₆) (fun _ _ => False) s₅) (fun _ _ => False) s₄) (fun _ _ => False) s₄) (fun _ _ => False) s₃
           | none => wpAny (model prog w) A (eval elt (compEnvC scope cl C env)) (fun y s₄ => wpAny (model prog w) A (call (.builtin "list.append") [.ref D, y]) (fun _ s₅ => ∃ k, k < n + 1 - i ∧ ZCSt h₀ L m ow C D n O J s k s₅) (fun _ _ => False) s₄) (fun _ _ => False) s₃))
   (done : ∀ h' tk oC m₂ ys news, LCg.NsObj oC m₂ → Fr h₀ L h' m → News h₀ L h' ((C, oC) :: (D, listOf ys.toArray ys.length) :: news) → (∀ p ∈ news, p.1 ∉ C :: D :: ow) → J n ys m₂ news → R (.ok .next) { s with heap := h', toks := tk }) :
   codeAny (model prog w) A (.compLoop (.ListComp elt gens scope pos) d (.ref I) (.ref D) (compEnvC scope cl C env)) R s := by
 refine zcl_raw hg (ZCSt h₀ L m ow C D n O J s) ?_ (n + 1) ⟨s.heap, s.toks, oC, m₂, ys, news, o, 0, rfl, hO, hC, F, N, hoff, h0, Nat.zero_le _, rfl⟩
 clear hC F N hO hoff h0
 intro k s' H
 obtain ⟨h', tk, oC, m₂, ys, news, o, i, rfl, hO, hC, F, N, hoff, hJ', hi, rfl⟩ := H
 have perm : News h₀ L h' (o ++ ((C, oC) :: (D, listOf ys.toArray ys.length) :: news)) := fun p hp => N p ((List.mem_append.mp hp).elim (fun h => .tail _ (.tail _ (List.mem_append_left _ h))) fun h => (List.mem_cons.mp h).elim (fun h => h ▸ .head _) fun h => (List.mem_cons.mp h).elim (fun h => h ▸ .tail _ (.head _)) fun h => .tail _ (.tail _ (List.mem_append_right _ h)))
 have offs : ∀ p ∈ (C, oC) :: (D, listOf ys.toArray ys.length) :: news, p.1 ∉ ow := fun p hp => (List.mem_cons.mp hp).elim (fun h => h ▸ hCw) fun h => (List.mem_cons.mp h).elim (fun h => h ▸ hDw) fun h hx => hoff p h (.tail _ (.tail _ hx))
 have hneed : ∀ p ∈ need, p ∈ (C, oC) :: (D, listOf ys.toArray ys.length) :: news := fun p hp => .tail _ (.tail _ (hJ _ _ _ _ hJ' p hp))
 by_cases hlt : i < n
 · refine wpAny_mono (S.item i o _ h₀ L m { s with heap := h', toks := tk } (fun v s₂ => wpAny (model prog w) A (assign target (compEnvC scope cl C env) v) (fun _ s₂ =>
         wpAny (model prog w) A (compTests ifs (compEnvC scope cl C env)) (fun ok s₃ => if ok = true then (match gens[d + 1]? with
           | some g' => wpAny (model prog w) A (eval g'.iter (compEnvC scope cl C env)) (fun x s₄ => wpAny (model prog w) A (if g'.is_async != 0 then foldedIterable g'.iter x else foldedSetIterable g'.iter (compEnvC scope cl C env) x) (fun x s₄ =>
               wpAny (model prog w) A (if g'.is_async != 0 then asyncIter x else pyIter x) (fun it' s₅ => wpAny (model prog w) A (runOwn (.compStart (.ListComp elt gens scope pos) (d + 1) it' (.ref D) (compEnvC scope cl C env)) (compEnvC scope cl C env)) (fun _ s₆ => ∃ k, k < n + 1 - i ∧ ZCSt h₀ L m ow C D n O J s k s₆) (fun _ _ => False) s₅) (fun _ _ => False) s₄) (fun _ _ => False) s₄) (fun _ _ => False) s₃
           | none => wpAny (model prog w) A (eval elt (compEnvC scope cl C env)) (fun y s₄ => wpAny (model prog w) A (call (.builtin "list.append") [.ref D, y]) (fun _ s₅ => ∃ k, k < n + 1 - i ∧ ZCSt h₀ L m ow C D n O J s k s₅) (fun _ _ => False) s₄) (fun _ _ => False) s₃) else ∃ k, k < n + 1 - i ∧ ZCSt h₀ L m ow C D n O J s k s₃) (fun _ _ => False) s₂) (fun _ _ => False) s₂) (fun _ _ => False) hO hlt hneed offs F perm ?_) (fun r s₁ h₁ => ?_) fun _ _ e => e
   · intro v x o₂ h₂ tk₂ hP hO₂ hx F₂ N₂
     obtain ⟨vals, hVi, hU⟩ := hV i v x _ _ ys m₂ news hlt hJ' hP
     have mem : ∀ p ∈ (C, oC) :: (D, listOf ys.toArray ys.length) :: news, p ∈ x ++ (o₂ ++ ((C, oC) :: (D, listOf ys.toArray ys.length) :: news)) := fun p hp => List.mem_append_right _ (List.mem_append_right _ hp)
     have zC := N₂ _ (mem _ (.head _))
     have hown := S.own _ _ hO₂
     refine zassign hh hU (fun y hy => lookup_relabel_local (hnm y hy)) (by simp [compEnvC, relabel, hkind]) (hC.ns zC.1) (fun p hp => (List.mem_append.mp hp).elim (fun hp => (N₂ _ (List.mem_append_left _ hp)).1) fun hp => (N₂ _ (mem _ (.tail _ (.tail _ hp)))).1) fun h₃ tk₃ hn₃ hk₃ => ?_
     obtain ⟨oC₃, eC₃, hoC₃⟩ := LCg.ns_obj hn₃
     refine wpAny_mono (step i vals x o₂ m₂ oC₃ ys news h₃ tk₃ hlt hJ' hVi hown (S.live _ _ hO₂) (fun p hp hm => ?_) hoff hoC₃ (fr_but F₂ hk₃ zC.2.1 zC.2.2) (zc_news N₂ hk₃ eC₃ hCD (fun p hp => (hx p hp).2 (C, oC) (.head _)) (fun p hp e => hCw (e ▸ hown p hp)) fun p hp e => hoff p hp (e ▸ .head _))) (fun ok s₄ h₄ => ?_) fun _ _ e => e
     · exact (List.mem_cons.mp hm).elim ((hx p hp).2 (C, oC) (.head _)) fun hm => (List.mem_cons.mp hm).elim ((hx p hp).2 (D, _) (.tail _ (.head _))) (hx p hp).1
     · cases ok with
       | false => exact ZCSt.next hO₂ hlt h₄
       | true => exact hB i ys m₂ news o₂ s₄ hlt hJ' hown hO₂ h₄
   · obtain ⟨v, rfl, h₁⟩ := h₁
     exact h₁
 · obtain rfl : i = n := Nat.le_antisymm hi (Nat.le_of_not_lt hlt)
   exact S.done o _ h₀ L m _ _ _ hO hneed offs F perm fun h₁ tk₁ F₁ N₁ => done h₁ tk₁ oC m₂ ys news hC F₁ N₁ hoff hJ'
theorem zcl_lastM {R : Result → Shared → Prop} {L : Addr} {m : Str → Option Value} {elt : Expr} {gens : List Comprehension} {iter : Expr} {ifs : List Expr} {scope : Scope} {cl : List (Str × Addr)} {pos : Pos} {d : Nat} {C D : Addr} {oC : Obj} {m₂ : Str → Option Value} {names : List Str} {ys : List Value} {news o : List (Addr × Obj)}
   (hg : gens[d]? = some ⟨target, iter, ifs, 0⟩) (hgn : gens[d + 1]? = none) (hh : A.handled = none) (S : Src prog w A target I n ow need P O)
   (V : Nat → List Value → List (Addr × Obj) → Prop) (J : Nat → List Value → (Str → Option Value) → List (Addr × Obj) → Prop) (hJ : ∀ i ys m₂ news, J i ys m₂ news → (∀ p ∈ need, p ∈ news) ∧ ys.length ≤ 1000)
   (hV : ∀ i v x t u ys m₂ news, i < n → J i ys m₂ news → P i v x t u → ∃ vals, V i vals x ∧ Unp target v names vals (x ++ news))
   (hkind : scope.kind = .function) (hnm : ∀ x ∈ names, scope.names.lookup x = some .local)
   (hCD : C ≠ D) (hC : LCg.NsObj oC m₂) (F : Fr h₀ L s.heap m) (N : News h₀ L s.heap ((C, oC) :: (D, listOf ys.toArray ys.length) :: (o ++ news))) (hO : O 0 o) (hoff : ∀ p ∈ news, p.1 ∉ C :: D :: ow) (hCw : C ∉ ow) (hDw : D ∉ ow) (h0 : J 0 ys m₂ news)
   (step : ∀ i vals x o m₂ oC ys news h₁ tk₁, i < n → J i ys m₂ news → V i vals x → (∀ p ∈ o, p.1 ∈ ow) → (∀ a ∈ ow, ∃ ob, (a, ob) ∈ o) → (∀ p ∈ x, p.1 ∉ C :: D :: ow) → (∀ p ∈ news, p.1 ∉ C :: D :: ow) → LCg.NsObj oC (bindMap names vals m₂) → Fr h₀ L h₁ m → News h₀ L h₁ ((C, oC) :: (D, listOf ys.toArray ys.length) :: (x ++ (o ++ news))) →
     wpAny (model prog w) A (compTests ifs (compEnvC scope cl C env)) (fun ok s₃ => if ok = true then
         wpAny (model prog w) A (eval elt (compEnvC scope cl C env)) (fun y s₄ => CNextM h₀ L m ow C D o ys (J (i + 1) (ys ++ [y])) s s₄) (fun _ _ => False) s₃
       else CNextM h₀ L m ow C D o ys (J (i + 1) ys) s s₃) (fun _ _ => False) { s with heap := h₁, toks := tk₁ })
   (done : ∀ h' tk oC m₂ ys news, LCg.NsObj oC m₂ → Fr h₀ L h' m → News h₀ L h' ((C, oC) :: (D, listOf ys.toArray ys.length) :: news) → (∀ p ∈ news, p.1 ∉ C :: D :: ow) → J n ys m₂ news → R (.ok .next) { s with heap := h', toks := tk }) :
   codeAny (model prog w) A (.compLoop (.ListComp elt gens scope pos) d (.ref I) (.ref D) (compEnvC scope cl C env)) R s := by
 refine zcl_core hg hh S V J (fun i ys m₂ news h => (hJ i ys m₂ news h).1) hV hkind hnm hCD hC F N hO hoff hCw hDw h0 _ step ?_ done
 intro i ys m₂ news o s₃ hi hJ' hown hO₂ h
 rw [hgn]
 refine wpAny_mono h (fun y s₅ h₅ => ?_) fun _ _ e => e
 obtain ⟨h₅, tk₅, oC₅, m₅, led, news₅, rfl, hC₅, F₅, N₅, mC, mD, mo, mn, off₅, hJ₅⟩ := h₅
 have zD := N₅ _ mD
 refine append_at (hsz := by rw [List.size_toArray, sizeLine_eq]; have := (hJ _ _ _ _ hJ').2; omega) zD.1 fun h₆ hs₆ hD₆ => ?_
 have k : ∀ p ∈ led, p.1 ≠ D → h₆.get? p.1 = some p.2 ∧ p.1 ≠ L ∧ h₀.get? p.1 = none := fun p hp hd => ⟨hs₆.extBut _ _ hd (N₅ p hp).1, (N₅ p hp).2⟩
 exact ZCSt.next hO₂ hi ⟨h₆, tk₅, oC₅, m₅, (C, oC₅) :: (D, listOf (ys ++ [y]).toArray (ys ++ [y]).length) :: (o ++ news₅), news₅, rfl, hC₅, fr_but F₅ hs₆.extBut zD.2.1 zD.2.2, fun p hp => (List.mem_cons.mp hp).elim (fun e => e ▸ k _ mC hCD) fun hp => (List.mem_cons.mp hp).elim (fun e => e ▸ ⟨hD₆.trans (congrArg some (LCg.lst_snoc ys y)), zD.2⟩) fun hp => (List.mem_append.mp hp).elim (fun hp => k p (mo p hp) fun e => hDw (e ▸ hown p hp)) fun hp => k p (mn p hp) fun e => off₅ p hp (e ▸ .tail _ (.head _)), .head _, .tail _ (.head _), fun p hp => .tail _ (.tail _ (List.mem_append_left _ hp)), fun p hp => .tail _ (.tail _ (List.mem_append_right _ hp)), off₅, hJ₅⟩
theorem zcl_last {R : Result → Shared → Prop} {L : Addr} {m : Str → Option Value} {elt : Expr} {gens : List Comprehension} {iter : Expr} {ifs : List Expr} {scope : Scope} {cl : List (Str × Addr)} {pos : Pos} {d : Nat} {C D : Addr} {oC : Obj} {m₂ : Str → Option Value} {names : List Str} {ys : List Value} {news o : List (Addr × Obj)}
   (hg : gens[d]? = some ⟨target, iter, ifs, 0⟩) (hgn : gens[d + 1]? = none) (hh : A.handled = none) (S : Src prog w A target I n ow need P O)
   (V : Nat → List Value → List (Addr × Obj) → Prop) (J : Nat → List Value → List (Addr × Obj) → Prop) (hJ : ∀ i ys news, J i ys news → (∀ p ∈ need, p ∈ news) ∧ ys.length ≤ 1000)
   (hV : ∀ i v x t u ys news, i < n → J i ys news → P i v x t u → ∃ vals, V i vals x ∧ Unp target v names vals (x ++ news))
   (hkind : scope.kind = .function) (hnm : ∀ x ∈ names, scope.names.lookup x = some .local)
   (hCD : C ≠ D) (hC : LCg.NsObj oC m₂) (F : Fr h₀ L s.heap m) (N : News h₀ L s.heap ((C, oC) :: (D, listOf ys.toArray ys.length) :: (o ++ news))) (hO : O 0 o) (hoff : ∀ p ∈ news, p.1 ∉ C :: D :: ow) (hCw : C ∉ ow) (hDw : D ∉ ow) (h0 : J 0 ys news)
   (step : ∀ i vals x o m₂ oC ys news h₁ tk₁, i < n → J i ys news → V i vals x → (∀ p ∈ o, p.1 ∈ ow) → (∀ a ∈ ow, ∃ ob, (a, ob) ∈ o) → (∀ p ∈ x, p.1 ∉ C :: D :: ow) → (∀ p ∈ news, p.1 ∉ C :: D :: ow) → LCg.NsObj oC (bindMap names vals m₂) → Fr h₀ L h₁ m → News h₀ L h₁ ((C, oC) :: (D, listOf ys.toArray ys.length) :: (x ++ (o ++ news))) →
     wpAny (model prog w) A (compTests ifs (compEnvC scope cl C env)) (fun ok s₃ => if ok = true then
         wpAny (model prog w) A (eval elt (compEnvC scope cl C env)) (fun y s₄ => CNext h₀ L m ow C D o ys (J (i + 1) (ys ++ [y])) s s₄) (fun _ _ => False) s₃
       else CNext h₀ L m ow C D o ys (J (i + 1) ys) s s₃) (fun _ _ => False) { s with heap := h₁, toks := tk₁ })
   (done : ∀ h' tk oC m₂ ys news, LCg.NsObj oC m₂ → Fr h₀ L h' m → News h₀ L h' ((C, oC) :: (D, listOf ys.toArray ys.length) :: news) → (∀ p ∈ news, p.1 ∉ C :: D :: ow) → J n ys news → R (.ok .next) { s with heap := h', toks := tk }) :
   codeAny (model prog w) A (.compLoop (.ListComp elt gens scope pos) d (.ref I) (.ref D) (compEnvC scope cl C env)) R s := zcl_lastM hg hgn hh S V (fun i ys _ news => J i ys news) (fun i ys _ news h => hJ i ys news h) (fun i v x t u ys _ news a b c => hV i v x t u ys news a b c) hkind hnm hCD hC F N hO hoff hCw hDw h0 step done
theorem zcl_moreM {R : Result → Shared → Prop} {L : Addr} {m : Str → Option Value} {elt : Expr} {gens : List Comprehension} {target' iter' : Expr} {ifs' : List Expr} {iter : Expr} {ifs : List Expr} {scope : Scope} {cl : List (Str × Addr)} {pos : Pos} {d : Nat} {C D : Addr} {oC : Obj} {m₂ : Str → Option Value} {names : List Str} {ys : List Value} {news o : List (Addr × Obj)}
   (hg : gens[d]? = some ⟨target, iter, ifs, 0⟩) (hgn : gens[d + 1]? = some ⟨target', iter', ifs', 0⟩) (hfs : ∀ x, foldedSetIterable iter' (compEnvC scope cl C env) x = pure x) (hh : A.handled = none) (S : Src prog w A target I n ow need P O)
   (V : Nat → List Value → List (Addr × Obj) → Prop) (J : Nat → List Value → (Str → Option Value) → List (Addr × Obj) → Prop) (hJ : ∀ i ys m₂ news, J i ys m₂ news → ∀ p ∈ need, p ∈ news)
   (hV : ∀ i v x t u ys m₂ news, i < n → J i ys m₂ news → P i v x t u → ∃ vals, V i vals x ∧ Unp target v names vals (x ++ news))
   (hkind : scope.kind = .function) (hnm : ∀ x ∈ names, scope.names.lookup x = some .local)
   (hCD : C ≠ D) (hC : LCg.NsObj oC m₂) (F : Fr h₀ L s.heap m) (N : News h₀ L s.heap ((C, oC) :: (D, listOf ys.toArray ys.length) :: (o ++ news))) (hO : O 0 o) (hoff : ∀ p ∈ news, p.1 ∉ C :: D :: ow) (hCw : C ∉ ow) (hDw : D ∉ ow) (h0 : J 0 ys m₂ news)
   (step : ∀ i vals x o m₂ oC ys news h₁ tk₁, i < n → J i ys m₂ news → V i vals x → (∀ p ∈ o, p.1 ∈ ow) → (∀ a ∈ ow, ∃ ob, (a, ob) ∈ o) → (∀ p ∈ x, p.1 ∉ C :: D :: ow) → (∀ p ∈ news, p.1 ∉ C :: D :: ow) → LCg.NsObj oC (bindMap names vals m₂) → Fr h₀ L h₁ m → News h₀ L h₁ ((C, oC) :: (D, listOf ys.toArray ys.length) :: (x ++ (o ++ news))) →
     wpAny (model prog w) A (compTests ifs (compEnvC scope cl C env)) (fun ok s₃ => if ok = true then
         wpAny (model prog w) A (eval iter' (compEnvC scope cl C env)) (fun xv s₄ => wpAny (model prog w) A (pyIter xv) (fun it s₅ =>
           codeAny (model prog w) A (.compStart (.ListComp elt gens scope pos) (d + 1) it (.ref D) (compEnvC scope cl C env)) (fun r s₆ => (∃ f, r = .ok f) ∧ ∃ ys', CNextM h₀ L m ow C D o ys' (J (i + 1) ys') s s₆) s₅) (fun _ _ => False) s₄) (fun _ _ => False) s₃
       else CNextM h₀ L m ow C D o ys (J (i + 1) ys) s s₃) (fun _ _ => False) { s with heap := h₁, toks := tk₁ })
   (done : ∀ h' tk oC m₂ ys news, LCg.NsObj oC m₂ → Fr h₀ L h' m → News h₀ L h' ((C, oC) :: (D, listOf ys.toArray ys.length) :: news) → (∀ p ∈ news, p.1 ∉ C :: D :: ow) → J n ys m₂ news → R (.ok .next) { s with heap := h', toks := tk }) :
   codeAny (model prog w) A (.compLoop (.ListComp elt gens scope pos) d (.ref I) (.ref D) (compEnvC scope cl C env)) R s := by
 refine zcl_core hg hh S V J hJ hV hkind hnm hCD hC F N hO hoff hCw hDw h0 _ step ?_ done
 intro i ys m₂ news o s₃ hi hJ' hown hO₂ h
 rw [hgn]
 refine wpAny_mono h (fun xv s₅ h₅ => ?_) fun _ _ e => e
 refine wpAny_of_eq (hfs xv) ?_
 refine wpAny_mono h₅ (fun it' s₆ h₆ => ?_) fun _ _ e => e
 refine wpAny_runOwn (codeAny_mono h₆ fun r s₇ h₇ => ?_)
 obtain ⟨⟨f, rfl⟩, ys', h₇⟩ := h₇
 exact ZCSt.next hO₂ hi h₇
inductive CEndI (h₀ : Heap) (L : Addr) (m : Str → Option Value) (C : Addr) (g : Array GenState) (dr : Drawn) (os : OsState) (Fin : List (Addr × Obj) → Prop) (r : Result) (s' : Shared) : Prop
 | mk (f : Flow) (h' : Heap) (tk : Nat) (oC : Obj) (m₂ : Str → Option Value) (news : List (Addr × Obj)) (hr : r = .ok f) (hs : s' = ⟨h', g, dr, tk, os⟩) (hC : LCg.NsObj oC m₂) (F : Fr h₀ L h' m) (N : News h₀ L h' ((C, oC) :: news)) (ho : ∀ p ∈ news, p.1 ≠ C) (fin : Fin news)
noncomputable def CEnd (h₀ : Heap) (L : Addr) (m : Str → Option Value) (C : Addr) (s : Shared) (Fin : List (Addr × Obj) → Prop) (r : Result) (s' : Shared) : Prop := CEndI h₀ L m C s.gens s.drawn s.os Fin r s'
theorem CEnd.intro {h₀ h' : Heap} {L : Addr} {m m₂ : Str → Option Value} {C : Addr} {s : Shared} {tk : Nat} {oC : Obj} {news : List (Addr × Obj)} {Fin : List (Addr × Obj) → Prop} {f : Flow}
   (hC : LCg.NsObj oC m₂) (F : Fr h₀ L h' m) (N : News h₀ L h' ((C, oC) :: news)) (ho : ∀ p ∈ news, p.1 ≠ C) (fin : Fin news) : CEnd h₀ L m C s Fin (.ok f) { s with heap := h', toks := tk } := ⟨_, _, _, _, _, _, rfl, rfl, hC, F, N, ho, fin⟩
noncomputable def CStart (prog : Program) (w : World) (A : Around) (h₀ : Heap) (L : Addr) (m : Str → Option Value) (env : Env) (elt : Expr) (gens : List Comprehension) (scope : Scope) (cl : List (Str × Addr)) (pos : Pos) (Fin : Addr → List (Addr × Obj) → Shared → Prop) (it : Value) (s₂ : Shared) : Prop :=
 ∃ news, Fr h₀ L s₂.heap m ∧ News h₀ L s₂.heap news ∧ ∀ C oC D h₁ tk₁, C ≠ D → (∀ p ∈ news, p.1 ≠ C ∧ p.1 ≠ D) → LCg.NsObj oC (fun _ => none) → Fr h₀ L h₁ m → News h₀ L h₁ ((C, oC) :: (D, listOf #[] 0) :: news) →
   codeAny (model prog w) A (.compStart (.ListComp elt gens scope pos) 0 it (.ref D) (compEnvC scope cl C env)) (CEnd h₀ L m C s₂ (fun news' => Fin D news' s₂)) { s₂ with heap := h₁, toks := tk₁ }
theorem zblock {L : Addr} {m : Str → Option Value} {E : Value → Shared → Prop} {elt : Expr} {gens : List Comprehension} {scope : Scope} {cl : List (Str × Addr)} {pos : Pos} {Fin : Addr → List (Addr × Obj) → Shared → Prop} {it : Value} {RR : Value → Addr → Result → Shared → Prop}
   (hcell : ∀ y ∈ scope.names, y.2 ≠ .cell) (hkind : scope.kind = .function) (h : CStart prog w A h₀ L m env elt gens scope cl pos Fin it s)
   (hRR : ∀ D C r s', CEnd h₀ L m C s (fun news' => Fin D news' s) r s' → RR (.ref D) C r s') :
   wpAny (model prog w) A (newList []) (fun acc s₃ => wpAny (model prog w) A (newFunctionEnv scope env.globals cl [] env.qual none .none (some env)) (fun cenv s₄ =>
     codeAny (model prog w) A (.compStart (.ListComp elt gens scope pos) 0 it acc { cenv with scope := relabel scope env }) (RR acc cenv.locals) s₄) E s₃) E s := by
 obtain ⟨news, F, N, h⟩ := h
 refine wpAny_newObj_type (wpAny_newFunctionEnv hcell (by intro y hy; simp at hy) (fun h₁ hns₁ hsb₁ => ?_) hkind)
 dsimp only at hns₁ hsb₁ ⊢
 generalize hH2 : s.heap.push { cls := .type "list", dict := none, data := .seq ([] : List Value).toArray } = H2 at hns₁ hsb₁ ⊢
 have hC : H2.objs.size = s.heap.objs.size + 1 := by rw [← hH2, Heap.size_push]
 have hDC : s.heap.objs.size ≠ H2.objs.size := by rw [hC]; exact Nat.ne_of_lt (Nat.lt_succ_self _)
 have below : ∀ b, b < s.heap.objs.size → b ≠ H2.objs.size ∧ b ≠ s.heap.objs.size := fun b hb => ⟨by rw [hC]; exact Nat.ne_of_lt (Nat.lt_succ_of_lt hb), Nat.ne_of_lt hb⟩
 have old : ∀ b o, s.heap.get? b = some o → h₁.get? b = some o := fun b o e => hsb₁.extBut b o (below b (Heap.lt_size e)).1 (Heap.get?_push_of_some _ (hH2 ▸ Heap.get?_push_of_some _ e))
 have hacc : h₁.get? s.heap.objs.size = some (listOf #[] 0) := hsb₁.extBut _ _ hDC (Heap.get?_push_of_some _ (hH2 ▸ Heap.get?_push_size _ rfl))
 have fresh₀ : ∀ a, s.heap.objs.size ≤ a → h₀.get? a = none := fun a ha => by
   cases e : h₀.get? a with
   | none => rfl
   | some o' => exact absurd (Heap.lt_size (F.keep a o' e)) (Nat.not_lt.mpr ha)
 have hD₀ : h₀.get? s.heap.objs.size = none := fresh₀ _ (Nat.le_refl _)
 have hC₀ : h₀.get? H2.objs.size = none := fresh₀ _ (by rw [hC]; exact Nat.le_succ _)
 have hLlt : L < s.heap.objs.size := F.ns.lt
 obtain ⟨oC, eC, hoC⟩ := LCg.ns_obj hns₁
 refine codeAny_mono (h H2.objs.size oC s.heap.objs.size h₁ _ (Ne.symm hDC) (fun p hp => below _ (Heap.lt_size (N p hp).1)) hoC (F.keeps old) fun p hp => ?_) fun r s' hr => hRR _ _ r s' hr
 rcases List.mem_cons.mp hp with rfl | hp
 · exact ⟨eC, Ne.symm (below L hLlt).1, hC₀⟩
 · rcases List.mem_cons.mp hp with rfl | hp
   · exact ⟨hacc, Ne.symm (below L hLlt).2, hD₀⟩
   · exact ⟨old _ _ (N p hp).1, (N p hp).2⟩
theorem zcomp {L : Addr} {m : Str → Option Value} {E : Value → Shared → Prop} {Q : Value → Shared → Prop} {elt iter : Expr} {ifs : List Expr} {rest : List Comprehension} {scope : Scope} {cl : List (Str × Addr)} {pos : Pos}
   (hclos : closureFor scope env = pure cl) (hcell : ∀ y ∈ scope.names, y.2 ≠ .cell) (hkind : scope.kind = .function) (hnames : ∀ y ∈ scope.names, y.2 = .local → scope.names.lookup y.1 = some .local)
   (h : wpAny (model prog w) A (eval iter env) (fun xv s₁ => wpAny (model prog w) A (pyIter xv) (CStart prog w A h₀ L m env elt (⟨target, iter, ifs, 0⟩ :: rest) scope cl pos (fun D news s₂ => ∀ h' tk, Fr h₀ L h' m → News h₀ L h' news → Q (.ref D) { s₂ with heap := h', toks := tk })) E s₁) E s)
   (hs : ∀ x, foldedSetIterable iter env x = pure x := by intro _; rfl) :
   wpAny (model prog w) A (eval (.ListComp elt (⟨target, iter, ifs, 0⟩ :: rest) scope pos) env) Q E s := by
 rw [eval_ListComp]
 refine wpAny_comprehension_free (use := none) rfl hs hclos hkind hnames (wpAny_mono h (fun xv s₁ h₁ => wpAny_mono h₁ (fun it s₂ h₂ => ?_) fun _ _ e => e) fun _ _ e => e)
 refine zblock (RR := fun acc C => compPost (model prog w) A E none Q acc C) hcell hkind h₂ fun D C r s' hr => ?_
 obtain ⟨f, h', tk, oC, m₂, news, rfl, rfl, hC, F, N, ho, fin⟩ := hr
 have zC := N (C, oC) (.head _)
 refine ⟨m₂, hC.ns zC.1, fun h'' hs'' => fin h'' tk ?_ fun p hp => ?_⟩
 · exact ⟨F.ns.at' fun o e => hs''.extBut _ o (Ne.symm zC.2.1) e, fun b o e => hs''.extBut b o (fun q => by rw [q, show h₀.get? C = none from zC.2.2] at e; cases e) (F.keep b o e), F.above⟩
 · exact ⟨hs''.extBut _ _ (ho p hp) (N p (.tail _ hp)).1, (N p (.tail _ hp)).2⟩
theorem zcompA {L : Addr} {m : Str → Option Value} {E : Value → Shared → Prop} {Q : Flow → Shared → Prop} {y : Str} {py spos : Pos} {elt iter : Expr} {ifs : List Expr} {rest : List Comprehension} {scope : Scope} {cl : List (Str × Addr)} {pos : Pos}
   (hLe : env.locals = L) (hsw : swapsWith (.ListComp elt (⟨target, iter, ifs, 0⟩ :: rest) scope pos) (some (.Name y py)) spos.line env = pure true)
   (hclos : closureFor scope env = pure cl) (hcell : ∀ y ∈ scope.names, y.2 ≠ .cell) (hkind : scope.kind = .function) (hnames : ∀ y ∈ scope.names, y.2 = .local → scope.names.lookup y.1 = some .local)
   (hy : env.kindOf y = some .local) (hp : (env.scope.kind == .class || (env.scope.kind == .module && env.locals != env.globals)) = false)
   (h : wpAny (model prog w) A (eval iter env) (fun xv s₁ => wpAny (model prog w) A (pyIter xv) (CStart prog w A h₀ L m env elt (⟨target, iter, ifs, 0⟩ :: rest) scope cl pos (fun D news s₂ => ∀ h' tk, Fr h₀ L h' (fun z => if z = y then some (.ref D) else m z) → News h₀ L h' news → Q .next { s₂ with heap := h', toks := tk })) E s₁) E s)
   (hs : ∀ x, foldedSetIterable iter env x = pure x := by intro _; rfl) :
   wpAny (model prog w) A (exec (.Assign [.Name y py] (.ListComp elt (⟨target, iter, ifs, 0⟩ :: rest) scope pos) spos) env) Q E s := by
 subst hLe
 rw [exec_Assign_Name_used _ _ _ _ hsw]
 refine wpAny_bind (wpAny_standAt (wpAny_bind ?_))
 show wpAny _ A (do let _ ← comprehension (.ListComp elt (⟨target, iter, ifs, 0⟩ :: rest) scope pos) scope env _ (newList []) false (eval iter env) (some (assign (.Name y py) env))) _ _ s
 refine wpAny_bind (wpAny_mono (wpAny_comprehension_free (use := some (assign (.Name y py) env)) (Q := fun _ s' => Q .next s') rfl hs hclos hkind hnames
   (wpAny_mono h (fun xv s₁ h₁ => wpAny_mono h₁ (fun it s₂ h₂ => ?_) fun _ _ e => e) fun _ _ e => e)) (fun _ s' hq => wpAny_pure (wpAny_pure hq)) fun _ _ e => e)
 refine zblock (RR := fun acc C => compPost (model prog w) A E (some (assign (.Name y py) env)) (fun _ s' => Q .next s') acc C) hcell hkind h₂ fun D C r s' hr => ?_
 obtain ⟨f, h', tk, oC, m₂, news, rfl, rfl, hC, F, N, ho, fin⟩ := hr
 have zC := N (C, oC) (.head _)
 have zC0 : h₀.get? C = none := zC.2.2
 have zCL : C ≠ env.locals := zC.2.1
 show wpAny _ A (assign (.Name y py) env (.ref D)) _ _ _
 refine wpAny_assign_Name (wpAny_storeName_local hy F.ns (fun h₂ hn₂ hs₂ => ?_) hp)
 have hL₀ : h₀.get? env.locals = none := Heap.get?_none_of_le F.above
 have F₂ : Fr h₀ env.locals h₂ (fun z => if z = y then some (.ref D) else m z) := ⟨hn₂, fun b o e => hs₂.extBut b o (fun q => by rw [q, hL₀] at e; cases e) (F.keep b o e), F.above⟩
 refine ⟨m₂, (hC.ns zC.1).sameBut hs₂ zCL, fun h'' hs'' => fin h'' _ ?_ fun p hp => ?_⟩
 · exact ⟨F₂.ns.at' fun o e => hs''.extBut _ o (Ne.symm zCL) e, fun b o e => hs''.extBut b o (fun q => by rw [q, zC0] at e; cases e) (F₂.keep b o e), F₂.above⟩
 · have z := N p (.tail _ hp)
   exact ⟨hs''.extBut _ _ (ho p hp) (hs₂.extBut _ _ z.2.1 z.1), z.2⟩
end
end
section
section
variable {prog : Program} {w : World} {A : Around} {h₀ : Heap} {L : Addr} {s : Shared} {E : Value → Shared → Prop} {m : Str → Option Value} {news : List (Addr × Obj)} {target : Expr}
theorem Src.create {I : Addr} {ow : List Addr} {need : List (Addr × Obj)} {St : Nat → Heap → Prop} {h' : Heap} {fp : List Addr}
   (F : Fr h₀ L s.heap m) (N : News h₀ L s.heap news) (up : ∀ b o, s.heap.get? b = some o → h'.get? b = some o) (hnew : ∀ a ∈ ow, s.heap.objs.size ≤ a) (st : St 0 h') (frame : ∀ h'', (∀ b ∈ fp, ∀ o, h'.get? b = some o → h''.get? b = some o) → St 0 h'')
   (hlive : ∀ a ∈ ow, ∃ ob, h'.get? a = some ob) (hfp : ∀ b ∈ fp, b ∈ ow ∨ ∃ ob, (b, ob) ∈ need) (hn : ∀ p ∈ need, p ∈ news) :
   ∃ o, OwnAt ow need St 0 o ∧ (∀ p ∈ news, p.1 ∉ ow) ∧ Fr h₀ L h' m ∧ News h₀ L h' (o ++ news) := by
 obtain ⟨o, hO, hg⟩ := OwnAt.of_heap (need := need) (ow := ow) st frame hlive hfp (fun p hp => up _ _ (N p (hn p hp)).1)
 refine ⟨o, hO, fun p hp hm => absurd (Heap.lt_size (N p hp).1) (Nat.not_lt.mpr (hnew _ hm)), F.keeps up, fun p hp => ?_⟩
 rcases List.mem_append.mp hp with hp | hp
 · have hz := hnew _ (hO.1 p hp)
   refine ⟨hg p hp, Nat.ne_of_gt (Nat.lt_of_lt_of_le F.ns.lt hz), ?_⟩
   cases e : h₀.get? p.1 with
   | none => rfl
   | some o' => exact absurd (Heap.lt_size (F.keep _ _ e)) (Nat.not_lt.mpr hz)
 · exact ⟨up _ _ (N p hp).1, (N p hp).2⟩
theorem zlist {l : Addr} {its : Array Value} {k : Nat} {Q : Value → Shared → Prop} (hh : A.handled = none) (F : Fr h₀ L s.heap m) (N : News h₀ L s.heap news) (hm : (l, listOf its k) ∈ news)
   (h : ∀ I o O h', (∀ target, (∀ i (s : Shared) v (Q : Unit → Shared → Prop) (E : Value → Shared → Prop), s.heap.IsListIter I l i → Q () s → wpAny (model prog w) A (letOwnedTupleGo target (.ref I) v) Q E s) → Src prog w A target I its.size [I] [(l, listOf its k)] (fun i v x _ _ => its[i]? = some v ∧ x = []) O) → O 0 o → (∀ p ∈ news, p.1 ∉ [I]) → (∀ p ∈ o, p.1 ∈ [I]) → Fr h₀ L h' m → News h₀ L h' (o ++ news) → Q (.ref I) { s with heap := h' }) :
   wpAny (model prog w) A (pyIter (.ref l)) Q E s := by
 have hl : s.heap.IsList l its := ⟨_, N.get hm, rfl, _, rfl⟩
 have hlt : l < s.heap.objs.size := Heap.lt_size (N.get hm)
 refine wpAny_pyIter_list hl ?_
 have W := Walks.list (prog := prog) (w := w) hh s.heap.objs.size l (Nat.ne_of_lt hlt) its
 have st : Heap.IsListIter (s.heap.push { cls := .type "list_iterator", data := .fields #[.ref l, .int 0 0] }) s.heap.objs.size l 0 := ⟨_, Heap.get?_push_size _ rfl, rfl, rfl⟩
 have S : ∀ target, (∀ i (s' : Shared) v (Q : Unit → Shared → Prop) (E : Value → Shared → Prop), s'.heap.IsListIter s.heap.objs.size l i → Q () s' → wpAny (model prog w) A (letOwnedTupleGo target (.ref s.heap.objs.size) v) Q E s') → Src prog w A target s.heap.objs.size its.size [s.heap.objs.size] [(l, listOf its k)] _ _ := fun target hgo => Src.of_walks (target := target) (need := [(l, listOf its k)]) W (fun a ha => ha) (fun b hb => by
   rcases List.mem_cons.mp hb with rfl | hb
   · exact .inl (.head _)
   · exact .inr ⟨_, by rw [List.mem_singleton.mp hb]; exact .head _⟩) (fun i h st a ha => by
   rw [List.mem_singleton.mp ha]
   obtain ⟨o, e, _⟩ := st.1
   exact ⟨o, e⟩) (fun i s v Q E st hQ => hgo i s v Q E st.1 hQ)
 obtain ⟨o, hO, hoff, F', N'⟩ := Src.create (I := s.heap.objs.size) (ow := [s.heap.objs.size]) (need := [(l, listOf its k)]) (St := fun i h => h.IsListIter s.heap.objs.size l i ∧ h.IsList l its) (h' := s.heap.push { cls := .type "list_iterator", data := .fields #[.ref l, .int 0 0] }) (fp := [s.heap.objs.size, l]) F N
   (fun b o e => Heap.get?_push_of_some _ e) (fun a ha => by rw [List.mem_singleton.mp ha]; exact Nat.le_refl _) ⟨st, hl.push _⟩ (fun h'' => W.frame _ _ _ ⟨st, hl.push _⟩)
   (fun a ha => by rw [List.mem_singleton.mp ha]; exact ⟨_, Heap.get?_push_size _ rfl⟩) (fun b hb => by
   rcases List.mem_cons.mp hb with rfl | hb
   · exact .inl (.head _)
   · exact .inr ⟨_, by rw [List.mem_singleton.mp hb]; exact .head _⟩) (fun p hp => by rw [List.mem_singleton.mp hp]; exact hm)
 exact h _ o _ _ S hO hoff hO.1 F' N'
theorem zgoN {l : Addr} {x : Str} {px : Pos} : ∀ (I : Addr) i (s : Shared) v (Q : Unit → Shared → Prop) (E : Value → Shared → Prop), s.heap.IsListIter I l i → Q () s → wpAny (model prog w) A (letOwnedTupleGo (.Name x px) (.ref I) v) Q E s :=
 fun _ _ _ _ _ _ _ hQ => wpAny_of_eq (a := ()) rfl hQ
theorem zgoT {l : Addr} {elts : List Expr} {k : Nat} {pos : Pos} : ∀ (I : Addr) i (s : Shared) v (Q : Unit → Shared → Prop) (E : Value → Shared → Prop), s.heap.IsListIter I l i → Q () s → wpAny (model prog w) A (letOwnedTupleGo (.Tuple elts k pos) (.ref I) v) Q E s :=
 fun _ _ _ v _ _ hit hQ => by
   cases v with
   | ref T => exact wpAny_letOwnedTupleGo_listiter hit hQ
   | _ => exact wpAny_of_eq (a := ()) rfl hQ
theorem ztuple {l : Addr} {its : Array Value} {k : Nat} {Q : Value → Shared → Prop} (hh : A.handled = none) (F : Fr h₀ L s.heap m) (N : News h₀ L s.heap news) (hm : (l, ({ cls := .type "tuple", data := .seq its k } : Obj)) ∈ news)
   (h : ∀ I o O h', (∀ x px, Src prog w A (.Name x px) I its.size [I] [(l, ({ cls := .type "tuple", data := .seq its k } : Obj))] (fun i v x _ _ => its[i]? = some v ∧ x = []) O) → O 0 o → (∀ p ∈ news, p.1 ∉ [I]) → (∀ p ∈ o, p.1 ∈ [I]) → Fr h₀ L h' m → News h₀ L h' (o ++ news) → Q (.ref I) { s with heap := h' }) :
   wpAny (model prog w) A (pyIter (.ref l)) Q E s := by
 have hl : s.heap.IsTuple l its := ⟨_, N.get hm, rfl, _, rfl⟩
 have hlt : l < s.heap.objs.size := Heap.lt_size (N.get hm)
 refine wpAny_pyIter_tuple hl ?_
 have W := Walks.tuple (prog := prog) (w := w) hh s.heap.objs.size l (Nat.ne_of_lt hlt) its
 have st : Heap.IsTupleIter (s.heap.push { cls := .type "tuple_iterator", data := .fields #[.ref l, .int 0 0] }) s.heap.objs.size l 0 := ⟨_, Heap.get?_push_size _ rfl, rfl, rfl⟩
 have S : ∀ x px, Src prog w A (.Name x px) s.heap.objs.size its.size [s.heap.objs.size] [(l, ({ cls := .type "tuple", data := .seq its k } : Obj))] _ _ := fun x px => Src.of_walks (need := [(l, ({ cls := .type "tuple", data := .seq its k } : Obj))]) W (fun a ha => ha) (fun b hb => by
   rcases List.mem_cons.mp hb with rfl | hb
   · exact .inl (.head _)
   · exact .inr ⟨_, by rw [List.mem_singleton.mp hb]; exact .head _⟩) (fun i h st a ha => by
   rw [List.mem_singleton.mp ha]
   obtain ⟨o, e, _⟩ := st.1
   exact ⟨o, e⟩) (fun i s v Q E st hQ => wpAny_of_eq (a := ()) rfl hQ)
 obtain ⟨o, hO, hoff, F', N'⟩ := Src.create (I := s.heap.objs.size) (ow := [s.heap.objs.size]) (need := [(l, ({ cls := .type "tuple", data := .seq its k } : Obj))]) (St := fun i h => h.IsTupleIter s.heap.objs.size l i ∧ h.IsTuple l its) (h' := s.heap.push { cls := .type "tuple_iterator", data := .fields #[.ref l, .int 0 0] }) (fp := [s.heap.objs.size, l]) F N
   (fun b o e => Heap.get?_push_of_some _ e) (fun a ha => by rw [List.mem_singleton.mp ha]; exact Nat.le_refl _) ⟨st, hl.push _⟩ (fun h'' => W.frame _ _ _ ⟨st, hl.push _⟩)
   (fun a ha => by rw [List.mem_singleton.mp ha]; exact ⟨_, Heap.get?_push_size _ rfl⟩) (fun b hb => by
   rcases List.mem_cons.mp hb with rfl | hb
   · exact .inl (.head _)
   · exact .inr ⟨_, by rw [List.mem_singleton.mp hb]; exact .head _⟩) (fun p hp => by rw [List.mem_singleton.mp hp]; exact hm)
 exact h _ o _ _ S hO hoff hO.1 F' N'
theorem zrange {r : Addr} {a b c : Int} {t u v : Tok} {n : Nat} {Q : Value → Shared → Prop} (hh : A.handled = none) (F : Fr h₀ L s.heap m) (N : News h₀ L s.heap news) (hr : IsRange s.heap r a b c t u v) (hsm : Builtin.Range.small a b c = true) (hn : Builtin.Range.rangeSize a b c = ((n : Nat) : Int))
   (h : ∀ I o O h', (∀ x px, Src prog w A (.Name x px) I n [I] [] (fun i v x _ _ => (∃ t, v = .int (a + i * c) t) ∧ x = []) O) → O 0 o → (∀ p ∈ news, p.1 ∉ [I]) → (∀ p ∈ o, p.1 ∈ [I]) → Fr h₀ L h' m → News h₀ L h' (o ++ news) → Q (.ref I) { s with heap := h' }) :
   wpAny (model prog w) A (pyIter (.ref r)) Q E s := by
 refine wpAny_pyIter_range hr hsm ?_
 have W := Walks.range (prog := prog) (w := w) hh s.heap.objs.size a c n
 have st : IsRangeIter (s.heap.push { cls := .type "range_iterator", data := .fields #[rawInt a, rawInt (Builtin.Range.rangeSize a b c), rawInt c] }) s.heap.objs.size (a + ((0 : Nat) : Int) * c) ((n : Int) - ((0 : Nat) : Int)) c := by
   rw [hn]; simpa using Heap.get?_push_size _ rfl
 have S : ∀ x px, Src prog w A (.Name x px) s.heap.objs.size n [s.heap.objs.size] [] _ _ := fun x px => Src.of_walks (need := []) W (fun a ha => ha) (fun b hb => .inl hb) (fun i h st a ha => by
   rw [List.mem_singleton.mp ha]
   exact ⟨_, st⟩) (fun i s v Q E st hQ => wpAny_of_eq (a := ()) rfl hQ)
 obtain ⟨o, hO, hoff, F', N'⟩ := Src.create (I := s.heap.objs.size) (ow := [s.heap.objs.size]) (need := []) (St := fun i h => IsRangeIter h s.heap.objs.size (a + (i : Nat) * c) ((n : Int) - (i : Nat)) c) (fp := [s.heap.objs.size]) F N
   (fun b o e => Heap.get?_push_of_some _ e) (fun a ha => by rw [List.mem_singleton.mp ha]; exact Nat.le_refl _) st (fun h'' => W.frame _ _ _ st)
   (fun a ha => by rw [List.mem_singleton.mp ha]; exact ⟨_, st⟩) (fun b hb => .inl hb) (fun p hp => nomatch hp)
 exact h _ o _ _ S hO hoff hO.1 F' N'
theorem bytesK {b : Array UInt8} {t : Tok} (hh : A.handled = none) (I : Addr) : WalksK prog w A I [I] [I] b.size (fun i v t₀ t₁ => ∃ c, b[i]? = some c ∧ v = .int (c.toNat : Int) t₀ ∧ t₁ = t₀ + 1) (fun i h => KBw.IsBytesIter h I b t i) where
 sub := fun _ hb => hb
 frame := (KBw.walks (prog := prog) (w := w) hh I b t).frame
 item := fun i s Q E hi st hQ => by
   refine KBw.next_item st (c := b[i]) (by simp [hi]) fun h' hit' hs' => ?_
   exact hQ _ h' (s.toks + 1) ⟨_, by simp [hi], rfl, rfl⟩ hit' fun b o hb e => hs'.extBut b o (fun h => hb (by simp [h])) e
 done := (KBw.walks (prog := prog) (w := w) hh I b t).done
 self := (KBw.walks (prog := prog) (w := w) hh I b t).self
theorem zbytes {b : Array UInt8} {t : Tok} {Q : Value → Shared → Prop} (hh : A.handled = none) (F : Fr h₀ L s.heap m) (N : News h₀ L s.heap news)
   (h : ∀ I o O h', (∀ x px, Src prog w A (.Name x px) I b.size [I] [] (fun i v x t₀ t₁ => (∃ c, b[i]? = some c ∧ v = .int (c.toNat : Int) t₀ ∧ t₁ = t₀ + 1) ∧ x = []) O) → O 0 o → (∀ p ∈ news, p.1 ∉ [I]) → (∀ p ∈ o, p.1 ∈ [I]) → Fr h₀ L h' m → News h₀ L h' (o ++ news) → Q (.ref I) { s with heap := h' }) :
   wpAny (model prog w) A (pyIter (.bytes b t)) Q E s := by
 refine KBw.pyIter_bytes ?_
 have W := bytesK (prog := prog) (w := w) (b := b) (t := t) hh s.heap.objs.size
 have st : KBw.IsBytesIter (s.heap.push { cls := .type "bytes_iterator", data := .fields #[.bytes b t, .int 0 0] }) s.heap.objs.size b t 0 := ⟨_, Heap.get?_push_size _ rfl, rfl, rfl⟩
 have S : ∀ x px, Src prog w A (.Name x px) s.heap.objs.size b.size [s.heap.objs.size] [] _ _ := fun x px => Src.of_walksK (need := []) W (fun a ha => ha) (fun b hb => .inl hb) (fun i h st a ha => by
   rw [List.mem_singleton.mp ha]
   obtain ⟨o, e, _⟩ := st
   exact ⟨_, e⟩) (fun i s v Q E st hQ => wpAny_of_eq (a := ()) rfl hQ)
 obtain ⟨o, hO, hoff, F', N'⟩ := Src.create (I := s.heap.objs.size) (ow := [s.heap.objs.size]) (need := []) (St := fun i h => KBw.IsBytesIter h s.heap.objs.size b t i) (fp := [s.heap.objs.size]) F N
   (fun b o e => Heap.get?_push_of_some _ e) (fun a ha => by rw [List.mem_singleton.mp ha]; exact Nat.le_refl _) st (fun h'' => W.frame _ _ _ st)
   (fun a ha => by rw [List.mem_singleton.mp ha]; exact ⟨_, Heap.get?_push_size _ rfl⟩) (fun b hb => .inl hb) (fun p hp => nomatch hp)
 exact h _ o _ _ S hO hoff hO.1 F' N'
theorem zenum {l : Addr} {its : Array Value} {k : Nat} {Q : Value → Shared → Prop} (hh : A.handled = none) (F : Fr h₀ L s.heap m) (N : News h₀ L s.heap news) (hm : (l, listOf its k) ∈ news)
   (h : ∀ I ow o O h', (∀ elts kk pos, Src prog w A (.Tuple elts kk pos) I its.size ow [(l, listOf its k)] (fun i v x _ _ => ∃ T vals ob, v = .ref T ∧ x = [(T, ob)] ∧ (∃ t y, its[i]? = some y ∧ vals = #[.int i t, y]) ∧ ob.cls = .type "tuple" ∧ ∃ z, ob.data = .seq vals z) O) → O 0 o → (∀ p ∈ news, p.1 ∉ ow) → (∀ p ∈ o, p.1 ∈ ow) → Fr h₀ L h' m → News h₀ L h' (o ++ news) → Q (.ref I) { s with heap := h' }) :
   wpAny (model prog w) A (call (.type "enumerate") [.ref l]) Q E s := by
 have hl : s.heap.IsList l its := ⟨_, N.get hm, rfl, _, rfl⟩
 have hlt : l < s.heap.objs.size := Heap.lt_size (N.get hm)
 refine call_enumerate_list hl fun h' he hi hz up => ?_
 have W := WalksT.enumerate (prog := prog) (w := w) hh (s.heap.objs.size + 1) s.heap.objs.size l (Nat.succ_ne_self _) (Nat.ne_of_lt (Nat.lt_succ_of_lt hlt)) (Nat.ne_of_lt hlt) its
 have fpo : ∀ b ∈ [s.heap.objs.size + 1, s.heap.objs.size, l], b ∈ [s.heap.objs.size + 1, s.heap.objs.size] ∨ ∃ ob, (b, ob) ∈ [(l, listOf its k)] := fun b hb => by
   rcases List.mem_cons.mp hb with rfl | hb
   · exact .inl (.head _)
   · rcases List.mem_cons.mp hb with rfl | hb
     · exact .inl (.tail _ (.head _))
     · exact .inr ⟨_, by rw [List.mem_singleton.mp hb]; exact .head _⟩
 have S : ∀ elts kk pos, Src prog w A (.Tuple elts kk pos) (s.heap.objs.size + 1) its.size [s.heap.objs.size + 1, s.heap.objs.size] [(l, listOf its k)] _ _ := fun elts kk pos => Src.of_walksT (need := [(l, listOf its k)]) W (fun a ha => ha) fpo (fun i h st a ha => by
   obtain ⟨⟨old, e⟩, ⟨o, e', _⟩, _⟩ := st
   rcases List.mem_cons.mp ha with rfl | ha
   · exact ⟨_, e⟩
   · rw [List.mem_singleton.mp ha]; exact ⟨_, e'⟩)
 have hl' : h'.IsList l its := ⟨_, up _ _ (N.get hm), rfl, _, rfl⟩
 obtain ⟨o, hO, hoff, F', N'⟩ := Src.create (I := s.heap.objs.size + 1) (ow := [s.heap.objs.size + 1, s.heap.objs.size]) (need := [(l, listOf its k)]) (St := fun i h => (∃ old, IsEnum h (s.heap.objs.size + 1) s.heap.objs.size i old) ∧ h.IsListIter s.heap.objs.size l i ∧ h.IsList l its) (fp := [s.heap.objs.size + 1, s.heap.objs.size, l]) F N
   up (fun a ha => by
     rcases List.mem_cons.mp ha with rfl | ha
     · exact Nat.le_succ _
     · rw [List.mem_singleton.mp ha]; exact Nat.le_refl _) ⟨⟨_, he⟩, hi, hl'⟩ (fun h'' => W.frame _ _ _ ⟨⟨_, he⟩, hi, hl'⟩)
   (fun a ha => by
     rcases List.mem_cons.mp ha with rfl | ha
     · exact ⟨_, he⟩
     · obtain ⟨o, e, _⟩ := hi; rw [List.mem_singleton.mp ha]; exact ⟨_, e⟩) fpo (fun p hp => by rw [List.mem_singleton.mp hp]; exact hm)
 exact h _ _ o _ _ S hO hoff hO.1 F' N'
theorem zzip {l1 l2 : Addr} {xs ys : Array Value} {k1 k2 : Nat} {Q : Value → Shared → Prop} (hh : A.handled = none) (F : Fr h₀ L s.heap m) (N : News h₀ L s.heap news) (hm1 : (l1, listOf xs k1) ∈ news) (hm2 : (l2, listOf ys k2) ∈ news)
   (h : ∀ I ow o O h', (∀ elts kk pos, Src prog w A (.Tuple elts kk pos) I (min xs.size ys.size) ow [(l1, listOf xs k1), (l2, listOf ys k2)] (fun i v x _ _ => ∃ T vals ob, v = .ref T ∧ x = [(T, ob)] ∧ (∃ a b, xs[i]? = some a ∧ ys[i]? = some b ∧ vals = #[a, b]) ∧ ob.cls = .type "tuple" ∧ ∃ z, ob.data = .seq vals z) O) → O 0 o → (∀ p ∈ news, p.1 ∉ ow) → (∀ p ∈ o, p.1 ∈ ow) → Fr h₀ L h' m → News h₀ L h' (o ++ news) → Q (.ref I) { s with heap := h' }) :
   wpAny (model prog w) A (call (.type "zip") [.ref l1, .ref l2]) Q E s := by
 have hl1 : s.heap.IsList l1 xs := ⟨_, N.get hm1, rfl, _, rfl⟩
 have hl2 : s.heap.IsList l2 ys := ⟨_, N.get hm2, rfl, _, rfl⟩
 have h1 : l1 < s.heap.objs.size := Heap.lt_size (N.get hm1)
 have h2 : l2 < s.heap.objs.size := Heap.lt_size (N.get hm2)
 refine call_zip_2 hl1 hl2 fun h' hz hTI hTO hi1 hi2 hsz up => ?_
 have ap : ∀ k : Nat, l1 ≠ s.heap.objs.size + k ∧ l2 ≠ s.heap.objs.size + k := fun k => ⟨Nat.ne_of_lt (Nat.lt_of_lt_of_le h1 (Nat.le_add_right _ _)), Nat.ne_of_lt (Nat.lt_of_lt_of_le h2 (Nat.le_add_right _ _))⟩
 have np : ∀ a b : Nat, a ≠ b → s.heap.objs.size + a ≠ s.heap.objs.size + b := fun a b h e => h (Nat.add_left_cancel e)
 have D : ZipApart (s.heap.objs.size + 4) (s.heap.objs.size + 2) (s.heap.objs.size + 3) s.heap.objs.size (s.heap.objs.size + 1) l1 l2 :=
   ⟨np 2 4 (by decide), np 3 4 (by decide), np 0 4 (by decide), np 1 4 (by decide), np 2 3 (by decide), np 2 0 (by decide), np 2 1 (by decide), np 3 0 (by decide), np 3 1 (by decide), np 0 1 (by decide),
     (ap 4).1, (ap 3).1, (ap 0).1, (ap 1).1, (ap 4).2, (ap 3).2, (ap 0).2, (ap 1).2⟩
 have W := WalksT.zip2 (prog := prog) (w := w) hh _ _ _ _ _ l1 l2 D xs ys
 have hl1' : h'.IsList l1 xs := ⟨_, up _ _ (N.get hm1), rfl, _, rfl⟩
 have hl2' : h'.IsList l2 ys := ⟨_, up _ _ (N.get hm2), rfl, _, rfl⟩
 have fpo : ∀ b ∈ [s.heap.objs.size + 4, s.heap.objs.size + 2, s.heap.objs.size + 3, s.heap.objs.size, s.heap.objs.size + 1, l1, l2], b ∈ [s.heap.objs.size + 4, s.heap.objs.size + 2, s.heap.objs.size + 3, s.heap.objs.size, s.heap.objs.size + 1] ∨ ∃ ob, (b, ob) ∈ [(l1, listOf xs k1), (l2, listOf ys k2)] := ac (.inl (.head _)) (ac (.inl (.tail _ (.head _))) (ac (.inl (.tail _ (.tail _ (.head _)))) (ac (.inl (.tail _ (.tail _ (.tail _ (.head _))))) (ac (.inl (.tail _ (.tail _ (.tail _ (.tail _ (.head _)))))) (ac (.inr ⟨_, .head _⟩) (ac (.inr ⟨_, .tail _ (.head _)⟩) ac0))))))
 have live : ∀ i h, (IsZip h (s.heap.objs.size + 4) (s.heap.objs.size + 2) (s.heap.objs.size + 3) .none ∧ IsPair h (s.heap.objs.size + 2) (.ref s.heap.objs.size) (.ref (s.heap.objs.size + 1)) ∧ (∃ a b, IsPair h (s.heap.objs.size + 3) a b) ∧ h.IsListIter s.heap.objs.size l1 i ∧ h.IsListIter (s.heap.objs.size + 1) l2 i ∧ h.IsList l1 xs ∧ h.IsList l2 ys) →
     ∀ a ∈ [s.heap.objs.size + 4, s.heap.objs.size + 2, s.heap.objs.size + 3, s.heap.objs.size, s.heap.objs.size + 1], ∃ ob, h.get? a = some ob := fun i h st => by
   obtain ⟨a1, a2, ⟨_, _, a3⟩, ⟨_, a4, _⟩, ⟨_, a5, _⟩, _⟩ := st
   exact ac ⟨_, a1⟩ (ac ⟨_, a2⟩ (ac ⟨_, a3⟩ (ac ⟨_, a4⟩ (ac ⟨_, a5⟩ ac0))))
 have S : ∀ elts kk pos, Src prog w A (.Tuple elts kk pos) (s.heap.objs.size + 4) (min xs.size ys.size) [s.heap.objs.size + 4, s.heap.objs.size + 2, s.heap.objs.size + 3, s.heap.objs.size, s.heap.objs.size + 1] [(l1, listOf xs k1), (l2, listOf ys k2)] _ _ := fun elts kk pos => Src.of_walksT (need := [(l1, listOf xs k1), (l2, listOf ys k2)]) W (by repeat' (first | exact sb0 | exact sbs | refine sbc ?_ ?_ | refine sba ?_ ?_ | refine sbt ?_ | refine sbl sbs | refine sbr ?_ | exact .head _ | refine .tail _ ?_ | refine List.mem_append_right _ ?_)) fpo live
 obtain ⟨o, hO, hoff, F', N'⟩ := Src.create (I := s.heap.objs.size + 4) (ow := [s.heap.objs.size + 4, s.heap.objs.size + 2, s.heap.objs.size + 3, s.heap.objs.size, s.heap.objs.size + 1]) (need := [(l1, listOf xs k1), (l2, listOf ys k2)]) (St := fun i h => (IsZip h (s.heap.objs.size + 4) (s.heap.objs.size + 2) (s.heap.objs.size + 3) .none ∧ IsPair h (s.heap.objs.size + 2) (.ref s.heap.objs.size) (.ref (s.heap.objs.size + 1)) ∧ (∃ a b, IsPair h (s.heap.objs.size + 3) a b) ∧ h.IsListIter s.heap.objs.size l1 i ∧ h.IsListIter (s.heap.objs.size + 1) l2 i ∧ h.IsList l1 xs ∧ h.IsList l2 ys)) (fp := [s.heap.objs.size + 4, s.heap.objs.size + 2, s.heap.objs.size + 3, s.heap.objs.size, s.heap.objs.size + 1, l1, l2]) F N
   up (by repeat' (first | exact ac0 | exact Nat.le_add_right _ _ | exact Nat.le_refl _ | refine ac ?_ ?_)) ⟨hz, hTI, ⟨_, _, hTO⟩, hi1, hi2, hl1', hl2'⟩ (fun h'' => W.frame _ _ _ ⟨hz, hTI, ⟨_, _, hTO⟩, hi1, hi2, hl1', hl2'⟩)
   (live 0 h' ⟨hz, hTI, ⟨_, _, hTO⟩, hi1, hi2, hl1', hl2'⟩) fpo (ac hm1 (ac hm2 ac0))
 exact h _ _ o _ _ S hO hoff hO.1 F' N'
end
section
variable {prog : Program} {w : World} {A : Around} {h₀ : Heap} {L : Addr} {s : Shared} {E : Value → Shared → Prop} {m : Str → Option Value} {led : List (Addr × Obj)} {env : Env}
theorem zunp {elts : List Expr} {k : Nat} {tp : Pos} {T : Addr} {ob : Obj} {items : Array Value} {z : Nat} {Q : Unit → Shared → Prop} (hh : A.handled = none) (F : Fr h₀ L s.heap m) (N : News h₀ L s.heap led) (hm : (T, ob) ∈ led) (hc : ob.cls = .type "tuple") (hd : ob.data = .seq items z)
   (hn : (assignEach elts env).length = items.size) (hstar : (assignEach elts env).findIdx? (·.1) = none)
   (h : ∀ h', Fr h₀ L h' m → News h₀ L h' led → wpAny (model prog w) A (assignInOrder ((assignEach elts env).map (·.2)) items.toList) Q E { s with heap := h' }) :
   wpAny (model prog w) A (assign (.Tuple elts k tp) env (.ref T)) Q E s := by
 refine wpAny_assign_Tuple hh ⟨ob, (N _ hm).1, hc, z, hd⟩ hn hstar fun h' k => ?_
 have up : ∀ b o, s.heap.get? b = some o → h'.get? b = some o := fun b o e => k b o (Nat.ne_of_lt (Heap.lt_size e)) e
 exact h h' (F.keeps up) fun p hp => ⟨up _ _ (N p hp).1, (N p hp).2⟩
end
end
section
section
variable {prog : Program} {w : World} {A : Around} {h₀ : Heap} {env : Env} {s : Shared} {target : Expr}
theorem zcompF {L : Addr} {m : Str → Option Value} {E : Value → Shared → Prop} {Q : Value → Shared → Prop} {elt iter : Expr} {ifs : List Expr} {rest : List Comprehension} {scope : Scope} {cl : List (Str × Addr)} {pos : Pos} (_ : Fr h₀ L s.heap m)
   (hclos : closureFor scope env = pure cl) (hcell : ∀ y ∈ scope.names, y.2 ≠ .cell) (hkind : scope.kind = .function) (hnames : ∀ y ∈ scope.names, y.2 = .local → scope.names.lookup y.1 = some .local)
   (h : wpAny (model prog w) A (eval iter env) (fun xv s₁ => wpAny (model prog w) A (pyIter xv) (CStart prog w A h₀ L m env elt (⟨target, iter, ifs, 0⟩ :: rest) scope cl pos (fun D news s₂ => ∀ h' tk, Fr h₀ L h' m → News h₀ L h' news → Q (.ref D) { s₂ with heap := h', toks := tk })) E s₁) E s)
   (hs : ∀ x, foldedSetIterable iter env x = pure x := by intro _; rfl) :
   wpAny (model prog w) A (eval (.ListComp elt (⟨target, iter, ifs, 0⟩ :: rest) scope pos) env) Q E s := zcomp hclos hcell hkind hnames h hs
variable {I : Addr} {n : Nat} {ow : List Addr} {need : List (Addr × Obj)} {P : Nat → Value → List (Addr × Obj) → Nat → Nat → Prop} {O : Nat → List (Addr × Obj) → Prop}
theorem zcl1 {L : Addr} {m : Str → Option Value} {elt : Expr} {iter : Expr} {ifs : List Expr} {scope : Scope} {cl : List (Str × Addr)} {pos : Pos} {names : List Str} {news o : List (Addr × Obj)} {Fin : Addr → List (Addr × Obj) → Shared → Prop}
   (hh : A.handled = none) (S : Src prog w A target I n ow need P O)
   (V : Nat → List Value → List (Addr × Obj) → Prop) (J : Nat → List Value → List (Addr × Obj) → Prop) (hJ : ∀ i ys news, J i ys news → (∀ p ∈ need, p ∈ news) ∧ ys.length ≤ 1000)
   (hV : ∀ i v x t u ys news, i < n → J i ys news → P i v x t u → ∃ vals, V i vals x ∧ Unp target v names vals (x ++ news))
   (hkind : scope.kind = .function) (hnm : ∀ x ∈ names, scope.names.lookup x = some .local)
   (F : Fr h₀ L s.heap m) (N : News h₀ L s.heap (o ++ news)) (hO : O 0 o) (hoff : ∀ p ∈ news, p.1 ∉ ow) (h0 : J 0 [] news)
   (step : ∀ C D i vals x o m₂ oC ys news h₁ tk₁, i < n → J i ys news → V i vals x → (∀ p ∈ o, p.1 ∈ ow) → (∀ p ∈ x, p.1 ∉ C :: D :: ow) → (∀ p ∈ news, p.1 ∉ C :: D :: ow) → LCg.NsObj oC (bindMap names vals m₂) → Fr h₀ L h₁ m → News h₀ L h₁ ((C, oC) :: (D, listOf ys.toArray ys.length) :: (x ++ (o ++ news))) →
     wpAny (model prog w) A (compTests ifs (compEnvC scope cl C env)) (fun ok s₃ => if ok = true then
         wpAny (model prog w) A (eval elt (compEnvC scope cl C env)) (fun y s₄ => CNext h₀ L m ow C D o ys (J (i + 1) (ys ++ [y])) s s₄) (fun _ _ => False) s₃
       else CNext h₀ L m ow C D o ys (J (i + 1) ys) s s₃) (fun _ _ => False) { s with heap := h₁, toks := tk₁ })
   (done : ∀ D ys news, (∀ p ∈ news, p.1 ≠ D) → J n ys news → Fin D ((D, listOf ys.toArray ys.length) :: news) s) :
   CStart prog w A h₀ L m env elt [⟨target, iter, ifs, 0⟩] scope cl pos Fin (.ref I) s := by
 refine ⟨_, F, N, fun C oC D h₁ tk₁ hCD hap hC F₁ N₁ => ?_⟩
 have ap : ∀ a ∈ ow, a ≠ C ∧ a ≠ D := fun a ha => by
   obtain ⟨ob, hm⟩ := S.live _ _ hO a ha
   exact hap _ (List.mem_append_left _ hm)
 have off2 : ∀ p ∈ news, p.1 ∉ C :: D :: ow := fun p hp hm => by
   have := hap p (List.mem_append_right _ hp)
   rcases List.mem_cons.mp hm with e | hm
   · exact this.1 e
   · rcases List.mem_cons.mp hm with e | hm
     · exact this.2 e
     · exact hoff p hp hm
 have LP : codeAny (model prog w) A (.compLoop (.ListComp elt [⟨target, iter, ifs, 0⟩] scope pos) 0 (.ref I) (.ref D) (compEnvC scope cl C env)) (CEnd h₀ L m C s (fun news' => Fin D news' s)) { s with heap := h₁, toks := tk₁ } := by
   refine zcl_last rfl rfl hh S V J hJ hV hkind hnm hCD hC F₁ N₁ hO off2 (fun h => (ap _ h).1 rfl) (fun h => (ap _ h).2 rfl) h0 ?_ ?_
   · exact fun i vals x o m₂ oC ys news h₁ tk₁ a1 a2 a3 a4 _ a5 a6 a7 a8 a9 => step C D i vals x o m₂ oC ys news h₁ tk₁ a1 a2 a3 a4 a5 a6 a7 a8 a9
   · intro h' tk oC m₂ ys news hC F N ho hJn
     refine CEnd.intro hC F N (fun p hp => ?_) (done D ys news (fun p hp e => ho p hp (by rw [e]; exact .tail _ (.head _))) hJn)
     rcases List.mem_cons.mp hp with rfl | hp
     · exact Ne.symm hCD
     · exact fun e => ho p hp (by rw [e]; exact .head _)
 exact zcs rfl LP (S.self 0 o ((C, oC) :: (D, listOf #[] 0) :: news) h₀ L _ _ _ hO (fun p hp => .tail _ (.tail _ ((hJ _ _ _ h0).1 p hp))) (sbn N₁ (by repeat' (first | exact sb0 | exact sbs | refine sbc ?_ ?_ | refine sba ?_ ?_ | refine sbt ?_ | refine sbl sbs | refine sbr ?_ | exact .head _ | refine .tail _ ?_ | refine List.mem_append_right _ ?_))) LP)
theorem compTests_nil {E : Value → Shared → Prop} {Q1 : Shared → Prop} {Q2 : Shared → Prop} (h : Q1 s) : wpAny (model prog w) A (compTests [] env) (fun ok s₃ => if ok = true then Q1 s₃ else Q2 s₃) E s :=
 wpAny_pure (a := true) (by rw [if_pos rfl]; exact h)
end
section
variable {prog : Program} {w : World} {A : Around} {E : Value → Shared → Prop} {s : Shared}
theorem item_any {value slice : Expr} {a : Addr} {l : List Value} {k : Nat} {u : Tok} {x : Value} {Q : Value → Shared → Prop} (hl : s.heap.IsList a l.toArray) (hfit : k < 2 ^ 62) (hx : l[k]? = some x) (h : Q x s)
   (hs : subscripted slice false (.ref a) (.int k u) = operate [.ref a, .int k u] (getItem (.ref a) (.int k u)) := by with_unfolding_all rfl) :
   wpAny (model prog w) A (subscriptTail value slice (.ref a) (.int k u)) Q E s :=
 tail_any hl.typeIs slot_list_getitem.lookup (wpAny_getItem_list hl (Int.natCast_nonneg _) (by omega) (by simpa using hx) h) hs
end
end
section
section
variable {prog : Program} {w : World} {A : Around} {h₀ : Heap} {env : Env} {s : Shared} {target : Expr} {I : Addr} {n : Nat} {ow : List Addr} {need : List (Addr × Obj)} {P : Nat → Value → List (Addr × Obj) → Nat → Nat → Prop} {O : Nat → List (Addr × Obj) → Prop}
theorem zforO {R : Result → Shared → Prop} {L : Addr} {body orelse : List Stmt} {m : Str → Option Value} {news o : List (Addr × Obj)} (S : Src prog w A target I n ow need P O)
   (J : Nat → (Str → Option Value) → List (Addr × Obj) → Prop) (hJ : ∀ i m news, J i m news → ∀ p ∈ need, p ∈ news)
   (F : Fr h₀ L s.heap m) (N : News h₀ L s.heap (o ++ news)) (hO : O 0 o) (hoff : ∀ p ∈ news, p.1 ∉ ow) (h0 : J 0 m news)
   (step : ∀ (J' : Nat → (Str → Option Value) → List (Addr × Obj) → Prop) (R' : Result → Shared → Prop) (σ : Shared), (∀ i m d, J i m d → J' i m d) → ∀ i v x t₀ o m₁ news₁ h₁ tk₁, i < n → J i m₁ news₁ → P i v x t₀ tk₁ → O (i + 1) o → (∀ p ∈ o, p.1 ∈ ow) → (∀ p ∈ x, p.1 ∉ ow ∧ ∀ q ∈ news₁, p.1 ≠ q.1) → (∀ p ∈ news₁, p.1 ∉ ow) → Fr h₀ L h₁ m₁ → News h₀ L h₁ (x ++ (o ++ news₁)) →
     wpAny (model prog w) A (assign target env v) (fun _ s₂ => wpAny (model prog w) A (execs body env) (ZTurn (ZNext h₀ L ow o (J' (i + 1)) σ) R') (fun _ _ => False) s₂) (fun _ _ => False) { σ with heap := h₁, toks := tk₁ })
   (done : ∀ h' tk m' news', Fr h₀ L h' m' → News h₀ L h' news' → J n m' news' → wpAny (model prog w) A (execs orelse env) (fun f s₃ => R (.ok f) s₃) (notedBy (model prog w) A env fun e s' => R (.error e) s') { s with heap := h', toks := tk }) :
   codeAny (model prog w) A (.forLoop target (.ref I) body orelse env) R s :=
 zfor S J hJ F N hO hoff h0 (step J R s fun _ _ _ h => h) done
theorem zforR {f : Nat → Tok → Value} {R : Result → Shared → Prop} {L : Addr} {body orelse : List Stmt} {m : Str → Option Value} {news o : List (Addr × Obj)} (S : Src prog w A target I n ow need (fun i v x _ _ => (∃ τ, v = f i τ) ∧ x = []) O)
   (J : Nat → (Str → Option Value) → List (Addr × Obj) → Prop) (hJ : ∀ i m news, J i m news → ∀ p ∈ need, p ∈ news)
   (F : Fr h₀ L s.heap m) (N : News h₀ L s.heap (o ++ news)) (hO : O 0 o) (hoff : ∀ p ∈ news, p.1 ∉ ow) (h0 : J 0 m news)
   (step : ∀ (J' : Nat → (Str → Option Value) → List (Addr × Obj) → Prop) (R' : Result → Shared → Prop) (σ : Shared), (∀ i m d, J i m d → J' i m d) → ∀ i τ o m₁ news₁ h₁ tk₁, i < n → J i m₁ news₁ → O (i + 1) o → (∀ p ∈ o, p.1 ∈ ow) → (∀ p ∈ news₁, p.1 ∉ ow) → Fr h₀ L h₁ m₁ → News h₀ L h₁ ([] ++ (o ++ news₁)) →
     wpAny (model prog w) A (assign target env (f i τ)) (fun _ s₂ => wpAny (model prog w) A (execs body env) (ZTurn (ZNext h₀ L ow o (J' (i + 1)) σ) R') (fun _ _ => False) s₂) (fun _ _ => False) { σ with heap := h₁, toks := tk₁ })
   (done : ∀ h' tk m' news', Fr h₀ L h' m' → News h₀ L h' news' → J n m' news' → wpAny (model prog w) A (execs orelse env) (fun f s₃ => R (.ok f) s₃) (notedBy (model prog w) A env fun e s' => R (.error e) s') { s with heap := h', toks := tk }) :
   codeAny (model prog w) A (.forLoop target (.ref I) body orelse env) R s :=
 zforO S J hJ F N hO hoff h0 (fun J' R' σ hJJ i v x t₀ o m₁ news₁ h₁ tk₁ hi HJ HP hO₁ ho hx hn F N => by
   obtain ⟨⟨τ, rfl⟩, rfl⟩ := HP
   exact step J' R' σ hJJ i τ o m₁ news₁ h₁ tk₁ hi HJ hO₁ ho hn F N) done
theorem zforL {its : Array Value} {R : Result → Shared → Prop} {L : Addr} {body orelse : List Stmt} {m : Str → Option Value} {news o : List (Addr × Obj)} (S : Src prog w A target I n ow need (fun i v x _ _ => its[i]? = some v ∧ x = []) O)
   (J : Nat → (Str → Option Value) → List (Addr × Obj) → Prop) (hJ : ∀ i m news, J i m news → ∀ p ∈ need, p ∈ news)
   (F : Fr h₀ L s.heap m) (N : News h₀ L s.heap (o ++ news)) (hO : O 0 o) (hoff : ∀ p ∈ news, p.1 ∉ ow) (h0 : J 0 m news)
   (step : ∀ (J' : Nat → (Str → Option Value) → List (Addr × Obj) → Prop) (R' : Result → Shared → Prop) (σ : Shared), (∀ i m d, J i m d → J' i m d) → ∀ i v o m₁ news₁ h₁ tk₁, i < n → J i m₁ news₁ → its[i]? = some v → O (i + 1) o → (∀ p ∈ o, p.1 ∈ ow) → (∀ p ∈ news₁, p.1 ∉ ow) → Fr h₀ L h₁ m₁ → News h₀ L h₁ ([] ++ (o ++ news₁)) →
     wpAny (model prog w) A (assign target env v) (fun _ s₂ => wpAny (model prog w) A (execs body env) (ZTurn (ZNext h₀ L ow o (J' (i + 1)) σ) R') (fun _ _ => False) s₂) (fun _ _ => False) { σ with heap := h₁, toks := tk₁ })
   (done : ∀ h' tk m' news', Fr h₀ L h' m' → News h₀ L h' news' → J n m' news' → wpAny (model prog w) A (execs orelse env) (fun f s₃ => R (.ok f) s₃) (notedBy (model prog w) A env fun e s' => R (.error e) s') { s with heap := h', toks := tk }) :
   codeAny (model prog w) A (.forLoop target (.ref I) body orelse env) R s :=
 zforO S J hJ F N hO hoff h0 (fun J' R' σ hJJ i v x t₀ o m₁ news₁ h₁ tk₁ hi HJ HP hO₁ ho hx hn F N => by
   obtain ⟨hv, rfl⟩ := HP
   exact step J' R' σ hJJ i v o m₁ news₁ h₁ tk₁ hi HJ hv hO₁ ho hn F N) done
theorem zforE {its : Array Value} {R : Result → Shared → Prop} {L : Addr} {body orelse : List Stmt} {m : Str → Option Value} {news o : List (Addr × Obj)} (S : Src prog w A target I n ow need (fun i v x _ _ => ∃ T vals ob, v = .ref T ∧ x = [(T, ob)] ∧ (∃ t y, its[i]? = some y ∧ vals = #[.int i t, y]) ∧ ob.cls = .type "tuple" ∧ ∃ z, ob.data = .seq vals z) O)
   (J : Nat → (Str → Option Value) → List (Addr × Obj) → Prop) (hJ : ∀ i m news, J i m news → ∀ p ∈ need, p ∈ news)
   (F : Fr h₀ L s.heap m) (N : News h₀ L s.heap (o ++ news)) (hO : O 0 o) (hoff : ∀ p ∈ news, p.1 ∉ ow) (h0 : J 0 m news)
   (step : ∀ (J' : Nat → (Str → Option Value) → List (Addr × Obj) → Prop) (R' : Result → Shared → Prop) (σ : Shared), (∀ i m d, J i m d → J' i m d) → ∀ i T ob ti y z o m₁ news₁ h₁ tk₁, i < n → J i m₁ news₁ → its[i]? = some y → ob.cls = .type "tuple" → ob.data = .seq #[.int i ti, y] z → O (i + 1) o → (∀ p ∈ o, p.1 ∈ ow) → (∀ p ∈ news₁, p.1 ∉ ow) → Fr h₀ L h₁ m₁ → News h₀ L h₁ ([(T, ob)] ++ (o ++ news₁)) →
     wpAny (model prog w) A (assign target env (.ref T)) (fun _ s₂ => wpAny (model prog w) A (execs body env) (ZTurn (ZNext h₀ L ow o (J' (i + 1)) σ) R') (fun _ _ => False) s₂) (fun _ _ => False) { σ with heap := h₁, toks := tk₁ })
   (done : ∀ h' tk m' news', Fr h₀ L h' m' → News h₀ L h' news' → J n m' news' → wpAny (model prog w) A (execs orelse env) (fun f s₃ => R (.ok f) s₃) (notedBy (model prog w) A env fun e s' => R (.error e) s') { s with heap := h', toks := tk }) :
   codeAny (model prog w) A (.forLoop target (.ref I) body orelse env) R s :=
 zforO S J hJ F N hO hoff h0 (fun J' R' σ hJJ i v x t₀ o m₁ news₁ h₁ tk₁ hi HJ HP hO₁ ho hx hn F N => by
   obtain ⟨T, vals, ob, rfl, rfl, ⟨ti, y, hy, rfl⟩, hc, z, hd⟩ := HP
   exact step J' R' σ hJJ i T ob ti y z o m₁ news₁ h₁ tk₁ hi HJ hy hc hd hO₁ ho hn F N) done
theorem zforGO {R : Result → Shared → Prop} {L : Addr} {body orelse : List Stmt} {m : Str → Option Value} {news o : List (Addr × Obj)} (S : Src prog w A target I n ow need P O)
   (G : Heap → Prop) (J : Nat → Nat → (Str → Option Value) → List (Addr × Obj) → Prop) (hJ : ∀ i t m news, J i t m news → ∀ p ∈ need, p ∈ news)
   (hG : G h₀) (F : Fr h₀ L s.heap m) (N : News h₀ L s.heap (o ++ news)) (hO : O 0 o) (hoff : ∀ p ∈ news, p.1 ∉ ow) (h0 : J 0 s.toks m news)
   (step : ∀ (J' : Nat → Nat → (Str → Option Value) → List (Addr × Obj) → Prop) (G' : Heap → Prop) (R' : Result → Shared → Prop) (σ : Shared), (∀ i t m d, J i t m d → J' i t m d) → (∀ h, G h → G' h) → ∀ h₀ i v x t₀ o m₁ news₁ h₁ tk₁, G h₀ → i < n → J i t₀ m₁ news₁ → P i v x t₀ tk₁ → t₀ ≤ tk₁ → O (i + 1) o → (∀ p ∈ o, p.1 ∈ ow) → (∀ p ∈ x, p.1 ∉ ow ∧ ∀ q ∈ news₁, p.1 ≠ q.1) → (∀ p ∈ news₁, p.1 ∉ ow) → Fr h₀ L h₁ m₁ → News h₀ L h₁ (x ++ (o ++ news₁)) →
     wpAny (model prog w) A (assign target env v) (fun _ s₂ => wpAny (model prog w) A (execs body env) (fun f s' => tk₁ ≤ s'.toks → ZTurn (fun s' => ∃ h₀, G' h₀ ∧ ZNext h₀ L ow o (J' (i + 1) s'.toks) σ s') R' f s') (fun _ _ => False) s₂) (fun _ _ => False) { σ with heap := h₁, toks := tk₁ })
   (done : ∀ h₀ h' tk m' news', G h₀ → Fr h₀ L h' m' → News h₀ L h' news' → (∃ t, t ≤ tk ∧ J n t m' news') → wpAny (model prog w) A (execs orelse env) (fun f s₃ => R (.ok f) s₃) (notedBy (model prog w) A env fun e s' => R (.error e) s') { s with heap := h', toks := tk }) :
   codeAny (model prog w) A (.forLoop target (.ref I) body orelse env) R s :=
 zforG S G J hJ hG F N hO hoff h0 (step J G R s (fun _ _ _ _ h => h) fun _ h => h) done
theorem zcl1O {L : Addr} {m : Str → Option Value} {elt : Expr} {iter : Expr} {ifs : List Expr} {scope : Scope} {cl : List (Str × Addr)} {pos : Pos} {names : List Str} {news o : List (Addr × Obj)} {Fin : Addr → List (Addr × Obj) → Shared → Prop}
   (hh : A.handled = none) (S : Src prog w A target I n ow need P O)
   (V : Nat → List Value → List (Addr × Obj) → Prop) (J : Nat → List Value → List (Addr × Obj) → Prop) (hJ : ∀ i ys news, J i ys news → (∀ p ∈ need, p ∈ news) ∧ ys.length ≤ 1000)
   (hV : ∀ i v x t u ys news, i < n → J i ys news → P i v x t u → ∃ vals, V i vals x ∧ Unp target v names vals (x ++ news))
   (hkind : scope.kind = .function) (hnm : ∀ x ∈ names, scope.names.lookup x = some .local)
   (F : Fr h₀ L s.heap m) (N : News h₀ L s.heap (o ++ news)) (hO : O 0 o) (hoff : ∀ p ∈ news, p.1 ∉ ow) (h0 : J 0 [] news)
   (step : ∀ (J' : Nat → List Value → List (Addr × Obj) → Prop) (σ : Shared), (∀ i ys d, J i ys d → J' i ys d) → ∀ C D i vals x o m₂ oC ys news h₁ tk₁, i < n → J i ys news → V i vals x → (∀ p ∈ o, p.1 ∈ ow) → (∀ p ∈ x, p.1 ∉ C :: D :: ow) → (∀ p ∈ news, p.1 ∉ C :: D :: ow) → LCg.NsObj oC (bindMap names vals m₂) → Fr h₀ L h₁ m → News h₀ L h₁ ((C, oC) :: (D, listOf ys.toArray ys.length) :: (x ++ (o ++ news))) →
     wpAny (model prog w) A (compTests ifs (compEnvC scope cl C env)) (fun ok s₃ => if ok = true then
         wpAny (model prog w) A (eval elt (compEnvC scope cl C env)) (fun y s₄ => CNext h₀ L m ow C D o ys (J' (i + 1) (ys ++ [y])) σ s₄) (fun _ _ => False) s₃
       else CNext h₀ L m ow C D o ys (J' (i + 1) ys) σ s₃) (fun _ _ => False) { σ with heap := h₁, toks := tk₁ })
   (done : ∀ D ys news, (∀ p ∈ news, p.1 ≠ D) → J n ys news → Fin D ((D, listOf ys.toArray ys.length) :: news) s) :
   CStart prog w A h₀ L m env elt [⟨target, iter, ifs, 0⟩] scope cl pos Fin (.ref I) s :=
 zcl1 hh S V J hJ hV hkind hnm F N hO hoff h0 (step J s fun _ _ _ h => h) done
end
theorem stmt_firstO {M : Model} {A : Around} {st : Stmt} {rest : List Stmt} {env : Env} {g : Heap} {L : Addr} {m : Str → Option Value} {Q : Flow → Shared → Prop} {E : Value → Shared → Prop} {s : Shared} (_ : Fr g L s.heap m) (P : Heap → Addr → Flow → Shared → Prop)
   (h1 : ∀ (P' : Flow → Shared → Prop) (E' : Value → Shared → Prop), (∀ f s', P g L f s' → P' f s') → (∀ e s', E e s' → E' e s') → wpAny M A (exec st env) P' E' s)
   (h2 : ∀ f s', P g L f s' → (match f with | .next => wpAny M A (execs rest env) Q E s' | f => Q f s')) : wpAny M A (execs (st :: rest) env) Q E s :=
 wpAny_execs_cons (wpAny_mono (h1 (P g L) E (fun _ _ h => h) fun _ _ h => h) h2 fun _ _ e => e)
theorem stmt_firstNO {M : Model} {A : Around} {st : Stmt} {rest : List Stmt} {env : Env} {g : Heap} {L a : Addr} {o : Obj} {r : List (Addr × Obj)} {m : Str → Option Value} {Q : Flow → Shared → Prop} {E : Value → Shared → Prop} {s : Shared} (_ : Fr g L s.heap m) (_ : News g L s.heap ((a, o) :: r)) (P : Heap → Addr → Addr → Flow → Shared → Prop)
   (h1 : ∀ (P' : Flow → Shared → Prop) (E' : Value → Shared → Prop), (∀ f s', P g L a f s' → P' f s') → (∀ e s', E e s' → E' e s') → wpAny M A (exec st env) P' E' s)
   (h2 : ∀ f s', P g L a f s' → (match f with | .next => wpAny M A (execs rest env) Q E s' | f => Q f s')) : wpAny M A (execs (st :: rest) env) Q E s :=
 wpAny_execs_cons (wpAny_mono (h1 (P g L a) E (fun _ _ h => h) fun _ _ h => h) h2 fun _ _ e => e)
end
section
noncomputable def Ctx2 (h : Heap) (e : Addr) : Prop := ∃ oe vs, h.get? e = some oe ∧ oe.data = .fields vs ∧ vs[2]? = some .none
noncomputable def K2 (e : Addr) {α : Type} (t : Sem α) : Prop := ∀ M Γ (Q : α → Pos → Shared → Prop) (E : Value → Pos → Shared → Prop) p s, Sem.wp M Γ t Q E p s → Ctx2 s.heap e → Sem.wp M Γ t (fun a p s' => Q a p s' ∧ Ctx2 s'.heap e) (fun x p s' => E x p s' ∧ Ctx2 s'.heap e) p s
section
variable {e : Addr} {α β : Type}
theorem K2.pure {a : α} : K2 e (pure a : Sem α) := fun M Γ Q E p s h c => by rw [Sem.wp_pure'] at h ⊢; exact ⟨h, c⟩
theorem K2.bind {m : Sem α} {f : α → Sem β} (hm : K2 e m) (hf : ∀ a, K2 e (f a)) : K2 e (m >>= f) := fun M Γ Q E p s h c => by
 rw [Sem.wp_bind'] at h ⊢
 exact Sem.wp_mono M Γ m (fun a p' s' h' => hf a M Γ Q E p' s' h'.1 h'.2) (fun _ _ _ h' => h') p s (hm M Γ _ _ p s h c)
theorem K2.unsupported {w : String} : K2 e (.unsupported w : Sem α) := fun M Γ Q E p s h c => by rw [Sem.wp_unsupported] at h; exact h.elim
theorem K2.load {a : Addr} {part : Option Value} {k : Obj → Sem α} (hk : ∀ o, K2 e (k o)) : K2 e (Sem.load a part k) := fun M Γ Q E p s h c => by
 unfold Sem.wp at h ⊢
 obtain ⟨o, ho, h⟩ := h
 exact ⟨o, ho, hk o M Γ Q E p s h c⟩
theorem K2.stack {k : List (Code × Pos) → Sem α} (hk : ∀ o, K2 e (k o)) : K2 e (Sem.stack k) := fun M Γ Q E p s h c => by
 unfold Sem.wp at h ⊢
 exact hk _ M Γ Q E p s h c
theorem K2.alloc {o : Obj} {k : Addr → Sem α} (hk : ∀ a, K2 e (k a)) : K2 e (Sem.alloc o k) := fun M Γ Q E p s h c => by
 unfold Sem.wp at h ⊢
 refine x2a3 c ?_; clear c; rintro oe vs h1 h2 h3
 exact hk _ M Γ Q E p _ h ⟨oe, vs, Heap.get?_push_of_some _ h1, h2, h3⟩
theorem K2.update {a : Addr} {part : Option Value} {f : Obj → Obj} {k : Unit → Sem α} (hf : ∀ o vs, o.data = .fields vs → vs[2]? = some .none → ∃ vs', (f o).data = .fields vs' ∧ vs'[2]? = some .none) (hk : ∀ a, K2 e (k a)) : K2 e (Sem.update a part f k) := fun M Γ Q E p s h c => by
 unfold Sem.wp at h ⊢
 refine x2a3 c ?_; clear c; rintro oe vs h1 h2 h3
 refine ⟨h.1, hk _ M Γ Q E p _ h.2 ?_⟩
 by_cases q : a = e
 · subst q
   obtain ⟨vs', h4, h5⟩ := hf oe vs h2 h3
   exact ⟨_, vs', Heap.get?_update_self _ h1 (Obj.isFreed_of_fields h4), h4, h5⟩
 · exact ⟨oe, vs, (Heap.get?_update_other _ _ q).trans h1, h2, h3⟩
theorem K2.ite {c : Prop} [Decidable c] {a b : Sem α} (ha : K2 e a) (hb : K2 e b) : K2 e (if c then a else b) := by split <;> assumption
theorem k2_fieldsOf (v : Value) : K2 e (fieldsOf v) := by
 unfold fieldsOf
 split
 · refine .bind (.load fun _ => .pure) fun o => ?_
   split
   · exact .pure
   · exact .unsupported
 · exact .unsupported
theorem k2_field (v : Value) (i : Nat) : K2 e (field v i) := by
 unfold field
 refine .bind (k2_fieldsOf v) fun vs => ?_
 split
 · exact .pure
 · exact .unsupported
theorem k2_setField (v : Value) (i : Nat) (x : Value) (hi : i ≠ 2) : K2 e (setField v i x) := by
 unfold setField
 split
 · unfold updateField
   refine .bind (.load fun _ => .pure) fun o => ?_
   split
   · refine .ite (.update (fun o vs h1 h2 => ⟨_, Obj.data_mapFields h1 _, ?_⟩) fun _ => .pure) .unsupported
     rw [Array.getElem?_setIfInBounds_ne (Ne.symm (Ne.symm hi))]
     exact h2
   · exact .unsupported
 · exact .unsupported
theorem k2_setFlight (v : Value) (f : Option Addr) : K2 e (setFlight v f) := by
 unfold setFlight
 refine .bind (k2_field _ _) fun tb => ?_
 exact .ite (k2_setField _ _ _ (by decide)) .pure
theorem k2_stack : K2 e stack := .stack fun _ => .pure
theorem k2_entryPlaceOf (f : Addr) (b : Bool) : K2 e (entryPlaceOf f b) := by
 unfold entryPlaceOf
 refine .bind k2_stack fun a => ?_
 split <;> exact .pure
theorem k2_behind (env : Env) (outer : List Env) : K2 e (behindIsImport env outer) := by
 unfold behindIsImport
 repeat' (first | exact .pure | exact .unsupported | refine .ite ?_ ?_ | refine .bind (k2_field _ _) fun _ => ?_ | refine .map (k2_field _ _))
theorem k2_under : K2 e underTheClaimsCaller := by
 unfold underTheClaimsCaller
 exact .bind k2_stack fun _ => .pure
theorem k2_keptBack (env : Env) (b : Bool) (l : List Env) : K2 e (keptBack env b l) := by
 unfold keptBack
 split
 · exact .ite .pure (.bind k2_under fun _ => .pure)
 · exact .pure
theorem k2_ready : ∀ l : List Env, K2 e (readyFrames l)
 | [] => by unfold readyFrames; exact .pure
 | env :: outer => by
   unfold readyFrames
   split
   · refine .bind (.load fun _ => .pure) fun o => ?_
     refine .ite .pure ?_
     refine .bind (k2_behind _ _) fun _ => .bind (k2_keptBack _ _ _) fun _ => .bind (.update (fun o vs h1 h2 => ⟨vs, h1, h2⟩) fun _ => .pure) fun _ => k2_ready outer
   · exact .unsupported
theorem k2_frameOf (env : Env) : K2 e (PySem.frameOf env) := by
 unfold PySem.frameOf frameEnvs
 refine .bind (.bind k2_stack fun _ => .pure) fun l => ?_
 refine .bind ?_ fun r => ?_
 · unfold frameObject
   split
   · exact .pure
   · exact .bind (k2_ready _) fun _ => .pure
 · split
   · exact .pure
   · exact .unsupported
theorem k2_newEntry (a b c d f : Value) (pl : List Value) : K2 e (EntryCells.newEntry a b c d f pl) := by
 unfold EntryCells.newEntry newFields newObj
 dsimp only
 have k : ∀ (cls : String) (d : Data), K2 e (newObjAsIs (.type cls) d) := fun cls d => by
   unfold newObjAsIs
   exact .bind (.alloc fun _ => .pure) fun _ => .pure
 exact .ite (.bind .unsupported fun _ => k _ _) (k _ _)
theorem k2_noteFrame (v : Value) (env : Env) : K2 e (noteFrame v env) := by
 unfold noteFrame
 split
 · refine .bind (k2_field _ _) fun head => ?_
   dsimp only
   refine .ite (.bind (k2_field _ _) fun _ => .ite .pure (.bind (k2_setField _ _ _ (by decide)) fun _ => ?_)) ?_
   all_goals exact .bind (k2_frameOf _) fun _ => .bind (k2_entryPlaceOf _ _) fun _ => .bind (k2_newEntry _ _ _ _ _ _) fun _ => k2_setField _ _ _ (by decide)
 · exact .unsupported
theorem k2_leaving (env : Env) (v : Value) : K2 e (leaving env v) := by
 unfold leaving
 exact .bind (k2_noteFrame _ _) fun _ => k2_setFlight _ _
theorem wpAny_K2 {M : Model} {A : Around} {t : Sem α} {Q : α → Shared → Prop} {E : Value → Shared → Prop} {s : Shared} (k : K2 e t) (h : wpAny M A t Q E s) (c : Ctx2 s.heap e) :
   wpAny M A t (fun a s' => Q a s' ∧ Ctx2 s'.heap e) (fun x s' => E x s' ∧ Ctx2 s'.heap e) s := fun Γ p hΓ => k M Γ _ _ p s (h Γ p hΓ) c
end
noncomputable def Held2 (A : Around) (news : List (Addr × Obj)) : Prop := A.handled = none ∨ ∃ e oe vs, A.handled = some (.ref e) ∧ (e, oe) ∈ news ∧ oe.data = .fields vs ∧ vs[2]? = some .none
section
variable {prog : Program} {w : World} {A₀ : Around} {E : Value → Shared → Prop} {s' : Shared} {base g g₀ G : Heap} {outer : List Env} {L a e t : Addr} {m : Str → Option Value} {name : Str} {scope : Scope} {cd : Value}
 {vs : List Value} {n : Str} {b₀ : Stmt} {suite : List Stmt} {pos np : Pos} {rest : List ExceptHandler} {Q : Flow → Shared → Prop} {news : List (Addr × Obj)} {KF : Frag}
 {p : Program} {loose : List Str} {mean : ExcName → Option Value} {mg mb : Str → Option Value}
theorem made_ctx {h h' : Heap} {cls : Value} {args : List Value} (x : Heap.MadeExcOf h h' e cls args) : Ctx2 h' e := by
 obtain ⟨t, h1, _⟩ := x.there
 exact ⟨_, _, h1, rfl, rfl⟩
theorem caught2 (R : RaisedS base G (envOf name scope L a cd :: outer) e (.type "ValueError") t vs news s'.heap) (c : Ctx2 s'.heap e) (F : Fr g L G m) (K : Below A₀ base outer g) (hsm : G.UpToSlots s'.heap) (XB : KF.In base) (TB : Top p loose mean mg mb base)
   (D : KtsDicts (outer.filterMap (·.frame)) g) (ex : nsIn KF mainGlobals "ValueError" = some none)
   (k : ∀ h' g' news₂ tk, KtsTurn (outer.filterMap (·.frame)) g g' → Fr g' L h' (fun y => if y = n then some (.ref e) else m y) → News g' L h' (news₂ ++ news) → Got news₂ e t (.type "ValueError") vs → (∃ oe ws, (e, oe) ∈ news₂ ∧ oe.data = .fields ws ∧ ws[2]? = some .none) → Below A₀ base outer g' → KF.In g' → Top p loose mean mg mb g' → KtsDicts (outer.filterMap (·.frame)) g' → (∀ q ∈ news₂, ∀ q' ∈ news, q.1 ≠ q'.1) →
     wpAny (model prog w) ((A₀.deeper (envOf name scope L a cd)).mark (some (.ref e))) (execs (b₀ :: suite) (envOf name scope L a cd))
       (fun f s₄ => wpAny (model prog w) (A₀.deeper (envOf name scope L a cd)) (do bindName (envOf name scope L a cd) n .none; unbindBehindTheSuite (envOf name scope L a cd) n pos) (fun _ s₅ => Q f s₅) (fun _ _ => False) s₄)
       (fun _ _ => False) { s' with heap := h', toks := tk })
   (hk : scope.kind = .function := by rfl) (hlo : (envOf name scope L a cd).kindOf n = some .local := by rfl) (hx : (envOf name scope L a cd).kindOf "ValueError" = some .globalImplicit := by rfl) :
   wpAny (model prog w) (A₀.deeper (envOf name scope L a cd)) (noteFrame (.ref e) (envOf name scope L a cd))
     (fun _ s₂ => wpAny (model prog w) (A₀.deeper (envOf name scope L a cd)) (setFlight (.ref e) none) (fun _ s₃ =>
       wpAny (model prog w) (A₀.deeper (envOf name scope L a cd)) (handleBy (.ref e) (envOf name scope L a cd) (.ExceptHandler (some (.Name "ValueError" np)) (some n) (b₀ :: suite) pos :: rest)) Q E s₃) E s₂) E s' := by
 obtain ⟨⟨B, hB, hBG, hl, hfl, hnew⟩, htup⟩ := R
 have hL : B.get? L = none := by
   obtain ⟨_, ⟨L', _, hf, hn', _⟩, _⟩ := hfl.2.2.1
   obtain rfl : L = L' := Option.some.inj hf
   exact hn'
 refine wpAny_mono (wpAny_K2 (e := e) (k2_noteFrame _ _) (wpAny_looks_onW (E := E) (Q := fun _ s₄ => ∃ h₄, s₄ = { s' with heap := h₄ } ∧ Heap.HeldW B (envOf name scope L a cd :: outer) e (.type "ValueError") (.ref t) L h₄ ∧ s'.heap.UpToSlots h₄) (Around.frames_deeper K.stack) rfl hfl (fun h₄ a b => ⟨h₄, rfl, a, b⟩)) c) (fun _ s₄ hq => ?_) fun _ _ x => x.1
 obtain ⟨⟨h₄, rfl, hheld₄, hsm₄⟩, c₄⟩ := hq
 refine wpAny_mono (wpAny_K2 (e := e) (k2_setFlight _ _) (wpAny_landsW (E := E) (Q := fun _ s₅ => ∃ h₅, s₅ = { s' with heap := h₅ } ∧ Heap.FlyingW B (envOf name scope L a cd :: outer) e (.type "ValueError") (.ref t) h₅ ∧ h₄.UpToSlots h₅) hheld₄ (fun h₅ a b => ⟨h₅, rfl, a, b⟩)) c₄) (fun _ s₅ hq => ?_) fun _ _ x => x.1
 obtain ⟨⟨h₅, rfl, hheld, hsm₅'⟩, c₅⟩ := hq
 have hsm₅ := hsm₄.trans hsm₅'
 refine x1a3 (kts_ground K F hBG hheld.1 (hsm.trans hsm₅)) ?_; rintro g₅ T₅ F₅ K₅
 have X₅ : KF.In g₅ := XB.keeps K₅.stays
 have P₅ : TopRead p loose mg mb g₅ := topRead_of (TB.keeps K₅.stays)
 obtain ⟨ob, hob, hobc⟩ := hheld.there
 refine wpAny_handleBy_builtin_as (X := "ValueError") (T := "ValueError") (b := true) PySem.F.isExc_ValueError PySem.F.notTuple_ValueError (by rw [isSubtype_type]; kernel_rfl) (name_B F₅ X₅ P₅ ex PyProof.Rows.Boot.«ValueError» (by decide) ⟨rfl, ⟨ob, hob, hobc⟩, ?_⟩ hk hx (by decide))
 refine wpAny_mono (wpAny_K2 (e := e) (k2_setFlight _ _) (lands_againW (E := fun _ _ => False) (Q := fun _ s₆ => ∃ h₆, s₆ = { s' with heap := h₆ } ∧ Heap.FlyingW B (envOf name scope L a cd :: outer) e (.type "ValueError") (.ref t) h₆ ∧ h₅.UpToSlots h₆) hheld (fun h₆ a b => ⟨h₆, rfl, a, b⟩)) c₅) (fun _ s₆ hq => ?_) fun _ _ x => x.1.elim
 obtain ⟨⟨h₆, rfl, hfl₆, hsm₆⟩, c₆⟩ := hq
 refine x1a3 (kts_ground K F hBG hfl₆.1 ((hsm.trans hsm₅).trans hsm₆)) ?_; rintro g₆ T₆ F₆ K₆
 refine x2a4 (hfl₆.first) ?_; rintro oe ws hoe hoec hoed hoe0
 refine x2a3 ((htup.of_slots hsm₅).of_slots hsm₆) ?_; rintro ot nt hot hotc hotd
 have hall := (hsm.trans hsm₅).trans hsm₆
 have ne₆ : g₆.get? e = none := T₆.none_ _ (kts_fresh F hBG hfl₆.2.1 fun o ho m => by
   obtain ⟨_, o', ho', hd⟩ := K.frames.mem m
   rw [ho] at ho'
   cases ho'
   obtain ⟨sl, hs⟩ := hall _ _ (F.keep _ _ ho) hd
   rw [hoe] at hs
   cases hs
   exact hd _ hoed)
 have nt₆ : g₆.get? t = none := T₆.none_ _ (kts_fresh F hBG hnew fun o ho m => by
   refine x3a2 (D _ m) ?_; rintro o' es n' ho' hd
   rw [ho] at ho'
   cases ho'
   obtain ⟨sl, hs⟩ := hall _ _ (F.keep _ _ ho) (fun vs q => by rw [hd] at q; cases q)
   rw [hot] at hs
   cases hs
   have z := hd.symm.trans hotd
   cases z)
 have N₆ := News.more F₆ (News.more F₆ News.nil hot (fun es n q => by rw [hotd] at q; cases q) nt₆) hoe (fun es n q => by rw [hoed] at q; cases q) ne₆
 have Nl : News g₆ L h₆ news := fun q hq => ⟨hfl₆.1 _ _ (hl q hq).1, (fun z => by have := (hl q hq).1; rw [z, hL] at this; cases this), T₆.none_ _ (kts_none F.keep (hl q hq).2.1)⟩
 have hctx : ws[2]? = some .none := by
   refine x2a3 c₆ ?_; clear c₆; rintro oe' vs' h1 h2 h3
   rw [show h₆.get? e = some oe' from h1] at hoe
   cases hoe
   rw [hoed] at h2
   cases h2
   exact h3
 have apart : ∀ q ∈ (e, oe) :: (t, ot) :: ([] : List (Addr × Obj)), ∀ q' ∈ news, q.1 ≠ q'.1 := fun q hq q' hq' z => by
   have z1 := (hl q' hq').1
   rcases List.mem_cons.mp hq with rfl | hq
   · have z2 : B.get? e = none := hfl.2.1
     rw [← z, z2] at z1; cases z1
   · rw [List.mem_singleton.mp hq] at z
     rw [← z] at z1
     rw [show B.get? t = none from hnew] at z1
     cases z1
 refine stN F₆ (news := _ ++ news) (fun q hq => (List.mem_append.mp hq).elim (N₆ q) (Nl q)) (fun h₇ F₇ N₇ => ?_) hk hlo
 exact wpAny_mono (k h₇ g₆ _ _ T₆ F₇ N₇ ⟨oe, ot, ws, nt, .head _, .tail _ (.head _), hoec, hoed, hoe0, hotc, hotd⟩ ⟨oe, ws, .head _, hoed, hctx⟩ K₆ (XB.keeps K₆.stays) (TB.keeps K₆.stays) (D.turn T₆) apart) (fun f s₄ h₄ => wpAny_mono h₄ (fun _ _ x => x) fun _ _ x => x.elim) fun _ _ x => x.elim
end
section
variable {prog : Program} {w : World} {A : Around} {E : Value → Shared → Prop} {s' : Shared} {base g h : Heap} {outer : List Env} {L a e : Addr} {m : Str → Option Value} {name : Str} {scope : Scope} {cd : Value}
 {vs : List Value} {news : List (Addr × Obj)} {cls : Value}
theorem noted_first {B h : Heap} {env : Env} {outer : List Env} {L e : Addr} {args : List Value} {Q : Unit → Shared → Prop}
   (hfr : A.frames = some (env :: outer)) (hf : env.frame = some L) (hkb : B.StaysIn h) (hl : h.FunFrames B (env :: outer)) (hx : Heap.MadeExcOf h s'.heap e cls args)
   (hQ : ∀ h' t, Heap.HeldW B (env :: outer) e cls (.ref t) L h' → h'.TupAt t args → B.get? t = none → s'.heap.UpToSlots h' → Q () { s' with heap := h' }) : wpAny (model prog w) A (noteFrame (.ref e) env) Q E s' := by
 refine x1a3 (hx.there) ?_; rintro t he htn ht
 have fresh : ∀ b, h.get? b = none → B.get? b = none := fun b hb => kts_none hkb hb
 unfold noteFrame
 simp only [hf]
 refine wpAny_bind (wpAny_field he rfl (x := .none) rfl ?_)
 rw [if_neg (by decide)]
 refine wpAny_entryW (vs := #[.ref t, .none, .none, .none, .bool false, .none]) hfr (hl.of_keeps fun b o hb _ => ⟨o, hx.keeps b o hb, rfl⟩) hf he (fun b o hb => hx.keeps b o (hkb b o hb)) (fresh e hx.new) rfl (by simp) rfl fun h' hN => ?_
 refine x0a4 hN ?_; clear hN; rintro k1 k2 k3 k4
 exact hQ h' t ⟨k1, fresh e hx.new, k2, k3⟩ (Heap.TupAt.of_slots ⟨_, _, ht, rfl, rfl⟩ k4) (fresh t htn) k4
theorem setFlight_held {B : Heap} {l : List Env} {e L : Addr} {cls a0 : Value} {Q : Unit → Shared → Prop} (R : Heap.HeldW B l e cls a0 L s'.heap)
   (hQ : ∀ h', Heap.HeldW B l e cls a0 L h' → s'.heap.UpToSlots h' → Q () { s' with heap := h' }) : wpAny (model prog w) A (setFlight (.ref e) (some L)) Q E s' := by
 obtain ⟨hkb, hen, hl, oe, vs, T, oT, ts, he, hcls, hd, h1, hnT, hTe, hT, hdT, h3⟩ := R
 have other : ∀ b, b ≠ T → (s'.heap.update T (Obj.mapFields (·.setIfInBounds 3 (rawInt L)))).get? b = s'.heap.get? b := fun b hb => Heap.get?_update_other _ _ (Ne.symm hb)
 have off : ∀ b o, s'.heap.get? b = some o → (∀ vs, o.data ≠ .fields vs) → b ≠ T := fun b o hb hnf q => by
   rw [q, hT] at hb; cases hb; exact hnf ts hdT
 have hsz : 3 < ts.size := (Array.getElem?_eq_some_iff.mp h3).1
 unfold setFlight
 refine wpAny_bind (wpAny_field he hd h1 ?_)
 rw [if_pos (show (Value.ref T != Value.none) = true from by simp)]
 refine wpAny_setField hT hdT hsz (hQ _ ⟨fun b o hb => (other b fun q => by rw [q, hnT] at hb; cases hb).trans (hkb b o hb), hen,
   hl.of_keeps fun b o hb hnf => ⟨o, (other b (off b o hb hnf)).trans hb, rfl⟩, oe, vs, T, _, _, (other e (Ne.symm hTe)).trans he, hcls, hd, h1, hnT, hTe, Heap.get?_update_self _ hT (Obj.isFreed_of_fields (Obj.data_mapFields hdT _)), Obj.data_mapFields hdT _, ?_⟩
   fun b o hb hnf => ⟨o.slots, (other b (off b o hb hnf)).trans hb⟩)
 simp [hsz]
theorem else_raises {E₁ E₂ : Value → Shared → Prop} (K : Below A base outer g) (hx : Heap.MadeExcOf h s'.heap e cls vs) (F : Fr g L h m) (N : News g L h news)
   (hQ : ∀ h' t, RaisedS base g outer e cls t vs news h' → g.UpToSlots h' → Ctx2 h' e → E₁ (.ref e) { s' with heap := h' }) (hk : scope.kind = .function := by rfl) :
   notedBy (model prog w) (A.deeper (envOf name scope L a cd)) (envOf name scope L a cd) (fun x s₁ => cameBackBy (model prog w) (A.deeper (envOf name scope L a cd)) (envOf name scope L a cd)
     (fun x s₂ => wpAny (model prog w) (A.deeper (envOf name scope L a cd)) (leaving (envOf name scope L a cd) x) (fun _ s₃ => E₁ x s₃) E₂ s₂) x s₁) (.ref e) s' := by
 have K' := K.push (name := name) (a := a) (cd := cd) F hk
 have hin : ∀ env ∈ (envOf name scope L a cd :: outer), ∀ b, env.frame = some b → b ∈ (envOf name scope L a cd :: outer).filterMap (·.frame) := fun env he b hb => List.mem_filterMap.mpr ⟨env, he, hb⟩
 have st : base.StaysIn (hideAll h ((envOf name scope L a cd :: outer).filterMap (·.frame))) := fun b o q => hideAll_get _ (K'.stays b o q) fun hm => by
   rw [(K'.frames.mem hm).1] at q; cases q
 have nL : L ∉ news.map (·.1) := fun q => by
   obtain ⟨p, hp, e⟩ := List.mem_map.mp q
   exact (N p hp).2.1 e
 have hg : g.StaysIn (hideAll h (news.map (·.1))) := fun b o q => hideAll_get _ (F.keep b o q) fun hm => by
   obtain ⟨p, hp, rfl⟩ := List.mem_map.mp hm
   rw [(N p hp).2.2] at q; cases q
 refine x3a4 (F.ns) ?_; rintro oL es ep hL hLd hLk hLf
 have FG : Fr g L (hideAll h (news.map (·.1))) m := ⟨⟨oL, es, ep, hideAll_get _ hL nL, hLd, hLk, hLf⟩, hg, F.above⟩
 have hGh : (hideAll h (news.map (·.1))).UpToSlots s'.heap := (Heap.UpToSlots.of_keeps fun b o q => of_hideAll _ q).trans (Heap.UpToSlots.of_keeps hx.keeps)
 unfold notedBy
 refine wpAny_mono (wpAny_K2 (e := e) (k2_noteFrame _ _) (noted_first (E := fun _ _ => False) (Q := fun _ s₁ => ∃ h₁ t, s₁ = { s' with heap := h₁ } ∧ RaisedH base (hideAll h (news.map (·.1))) (envOf name scope L a cd :: outer) L e cls t vs news h₁ ∧ s'.heap.UpToSlots h₁)
   K'.stack rfl (fun b o q => of_hideAll _ q) (funFrames_hide K'.frames hin) hx (fun h₁ t x1 x2 x3 x4 => ⟨h₁, t, rfl, ⟨⟨_, st, ?_, ?_, x1, x3⟩, x2⟩, x4⟩)) (made_ctx hx)) (fun _ s₁ hq => ?_) fun _ _ x => x.1.elim
 · intro b o q nm
   exact hideAll_get _ (of_hideAll _ q) nm
 · intro q hq
   refine ⟨hideAll_get _ (N q hq).1 fun hm => ?_, hideAll_none _ (List.mem_map_of_mem hq), fresh_of_stays K.stays (N q hq).2.2⟩
   rcases kts_mem hm with z | z
   · exact (N q hq).2.1 z
   · obtain ⟨o, ho, _⟩ := (K.frames.mem z).2
     rw [(N q hq).2.2] at ho; cases ho
 · obtain ⟨⟨h₁, t, rfl, R, U⟩, c⟩ := hq
   unfold cameBackBy
   obtain ⟨⟨B, hB, hBG, hl, hh, hnew⟩, htup⟩ := id R
   obtain ⟨_, _, _, oe, ws, T, oT, ts, he, hc, hd, h1, _⟩ := id hh
   refine wpAny_bind (wpAny_field he hd h1 ?_)
   rw [if_neg (show ¬ ((Value.ref T == Value.none) = true) from by simp)]
   refine wpAny_mono (wpAny_K2 (e := e) (k2_setFlight _ _) (setFlight_held (E := fun _ _ => False) (Q := fun _ s₂ => ∃ h₂, s₂ = { s' with heap := h₂ } ∧ RaisedH base (hideAll h (news.map (·.1))) (envOf name scope L a cd :: outer) L e cls t vs news h₂ ∧ s'.heap.UpToSlots h₂)
     hh (fun h₂ x1 x2 => ⟨h₂, rfl, ⟨⟨B, hB, hBG, hl, x1, hnew⟩, htup.of_slots x2⟩, U.trans x2⟩)) c) (fun _ s₂ hq => ?_) fun _ _ x => x.1.elim
   obtain ⟨⟨h₂, rfl, R₂, U₂⟩, c₂⟩ := hq
   refine wpAny_mono (wpAny_K2 (e := e) (k2_leaving _ _) (leave_heldS (E := fun _ _ => False) (Q1 := fun _ s₃ => ∃ h₃, s₃ = { s' with heap := h₃ } ∧ RaisedS base g outer e cls t vs news h₃ ∧ g.UpToSlots h₃) R₂ FG (hGh.trans U₂) (fun h₃ x1 _ x2 => ⟨h₃, rfl, x1, x2⟩)) c₂) (fun _ s₃ hq => ?_) fun _ _ x => x.1.elim
   obtain ⟨⟨h₃, rfl, R₃, U₃⟩, c₃⟩ := hq
   exact hQ h₃ t R₃ U₃ c₃
end
end
section
section
variable {prog : Program} {w : World} {A : Around} {s : Shared} {E : Value → Shared → Prop}
theorem isSubtype_stop' : isSubtype (.type "StopIteration") (.type "StopIteration") = pure true := by rw [isSubtype_type]; kernel_rfl
theorem unchain_entry : entryFor table "proto.unchain" = some Builtin.«proto.unchain» := entryFor_of_tree (by kernel_rfl)
theorem wpAny_raiseNew_held {α : Type} {a e : Addr} {oe oa : Obj} {vs va : Array Value} {Q : α → Shared → Prop} (hh : A.handled = some (.ref e)) (he : s.heap.get? e = some oe) (hd : oe.data = .fields vs) (h2 : vs[2]? = some .none)
   (ha : s.heap.get? a = some oa) (hda : oa.data = .fields va) (hsz : 2 < va.size) (hne : e ≠ a)
   (h : ∀ h', Heap.SameBut a s.heap h' → (∃ o, h'.get? a = some o ∧ o.cls = oa.cls) → E (.ref a) { s with heap := h' }) : wpAny (model prog w) A (raiseNew (.ref a) : Sem α) Q E s := by
 show wpAny _ _ (handled >>= _) _ _ _
 refine wpAny_bind (wpAny_handled ?_)
 rw [hh]
 show wpAny _ _ (ite ((Value.ref e != Value.ref a) = true) _ _) _ _ _
 rw [if_pos (show (Value.ref e != Value.ref a) = true by rw [bne_iff_ne]; exact fun q => hne (by cases q; rfl))]
 refine wpAny_bind (wpAny_holding (wpAny_runValue (codeAny_builtin unchain_entry ?_)))
 show wpAny _ _ (field (.ref e) 2 >>= _) _ _ s
 refine wpAny_bind (wpAny_field he hd h2 ?_)
 rw [if_pos (by decide)]
 refine wpAny_pure ?_
 dsimp only
 show wpAny _ _ (updateField a 2 (.ref e) >>= fun _ => throw (Value.ref a)) _ _ s
 refine wpAny_bind ?_
 show wpAny _ _ (setField (.ref a) 2 (.ref e)) _ _ s
 refine wpAny_setField ha hda hsz (wpAny_throw (h _ (Heap.SameBut.update ..) ⟨_, Heap.get?_update_self _ ha (Obj.isFreed_of_fields (Obj.data_mapFields hda _)), Obj.cls_mapFields ..⟩))
theorem tuple_end_held {it t e : Addr} {i : Nat} {items : Array Value} {oe : Obj} {ves : Array Value} {Q : Option Value → Shared → Prop} (hh : A.handled = some (.ref e)) (he : s.heap.get? e = some oe) (hde : oe.data = .fields ves) (h2 : ves[2]? = some .none) (hei : e ≠ it)
   (hit : s.heap.IsTupleIter it t i) (ht : s.heap.IsTuple t items) (hx : items[i]? = none)
   (hQ : ∀ h', Heap.ExtBut it s.heap h' → Q none { s with heap := h' }) : wpAny (model prog w) A (pyNext (.ref it)) Q E s := by
 obtain ⟨o, ho, hc, hd⟩ := id hit
 obtain ⟨ol, hol, hcl, nl, hdl⟩ := id ht
 unfold pyNext
 refine wpAny_bind (wpAny_attempt (wpAny_callSpecial?_slot (name := PySem.Str.ofString "__next__") hit.typeIs PySem.F.slot_tuple_iterator_next
   (wpAny_call_entry PySem.F.slot_tuple_iterator_next hit.typeIs PySem.F.entry_tuple_iterator_next ?_ (PySem.F.args_tuple_iterator_next_1 _))))
 show wpAny _ _ (field (.ref it) 0 >>= _) _ _ s
 refine wpAny_bind (wpAny_field ho hd (x := .ref t) rfl ?_)
 show wpAny _ _ (if (Value.ref t == Value.none) = true then _ else _) _ _ s
 rw [if_neg (show ¬ ((Value.ref t == Value.none) = true) from Bool.false_ne_true)]
 show wpAny _ _ (field (.ref it) 1 >>= _) _ _ s
 refine wpAny_bind (wpAny_field ho hd (x := .int i 0) rfl ?_)
 show wpAny _ _ (seqItems? (.ref t) >>= _) _ _ s
 refine wpAny_bind (wpAny_seqItems hol hdl ?_)
 simp only [Int.toNat_natCast, hx]
 refine wpAny_bind (wpAny_rule (wpAny_bind (wpAny_setField ho hd (by simp) ?_)))
 show wpAny _ _ (newExc (.type "StopIteration") [] >>= _) _ _ _
 refine wpAny_bind ?_
 simp only [newExc, newTuple]
 refine wpAny_bind (wpAny_newObj_type ?_ (by size_fits))
 refine wpAny_bind (m := firstArgMember _ _) (wpAny_of_eq (a := Value.none) (by first | rfl | (simp only [firstArgMember]; rfl)) ?_)
 refine wpAny_newObj_type ?_ (by size_fits)
 have helt : e < s.heap.objs.size := Heap.lt_size he
 have he' := (Heap.get?_update_other s.heap (Obj.mapFields (·.setIfInBounds 0 Value.none)) (Ne.symm hei)).trans he
 refine wpAny_raiseNew_held hh (Heap.get?_push_of_some _ (Heap.get?_push_of_some _ he')) hde h2 (Heap.get?_push_size _ rfl) rfl (by simp; omega) ?_ fun h' hs hcls => ?_
 · intro q
   exact absurd (Heap.lt_size (Heap.get?_push_of_some _ he')) (by rw [q]; exact Nat.lt_irrefl _)
 · obtain ⟨o', ho', hc'⟩ := hcls
   refine wpAny_bind (wpAny_isInstance (T := "StopIteration") (b := true) ?ty isSubtype_stop' ?_)
   case ty => exact ⟨_, ho', hc'⟩
   refine wpAny_pure (hQ _ fun b o'' hb e'' => ?_)
   have hlt := Heap.lt_size e''
   refine hs.extBut b o'' ?_ (Heap.get?_push_of_some _ (Heap.get?_push_of_some _ ((Heap.get?_update_other _ _ (Ne.symm hb)).trans e'')))
   intro q
   exact absurd (Heap.lt_size (Heap.get?_push_of_some _ ((Heap.get?_update_other s.heap (Obj.mapFields (·.setIfInBounds 0 Value.none)) (Ne.symm hb)).trans e''))) (by rw [q]; exact Nat.lt_irrefl _)
theorem assign_Tuple_held {env : Env} {elts : List Expr} {x1 : Nat} {pos : Pos} {t e : Addr} {items : Array Value} {oe : Obj} {ves : Array Value} {Q : Unit → Shared → Prop} (hh : A.handled = some (.ref e)) (he : s.heap.get? e = some oe) (hde : oe.data = .fields ves) (h2 : ves[2]? = some .none)
   (ht : s.heap.IsTuple t items) (hn : (assignEach elts env).length = items.size) (hstar : (assignEach elts env).findIdx? (·.1) = none)
   (h : ∀ h', Heap.ExtBut s.heap.objs.size s.heap h' → wpAny (model prog w) A (assignInOrder ((assignEach elts env).map (·.2)) items.toList) Q E { s with heap := h' }) :
   wpAny (model prog w) A (assign (.Tuple elts x1 pos) env (.ref t)) Q E s := by
 have hlt : t ≠ s.heap.objs.size := by obtain ⟨o, ho, _⟩ := ht; exact Nat.ne_of_lt (Heap.lt_size ho)
 have helt : e ≠ s.heap.objs.size := Nat.ne_of_lt (Heap.lt_size he)
 rw [arm_assign_Tuple]
 refine wpAny_bind (wpAny_standAt ?_)
 unfold unpack
 rw [hn, hstar]
 refine wpAny_bind (wpAny_holding ?_)
 unfold unpackItems
 refine wpAny_bind ?_
 · unfold notIterableAtAll
   refine wpAny_bind (wpAny_specialOf ht.typeIs PySem.F.slot_tuple_iter.lookup ?_)
   refine wpAny_pure ?_
   simp only [Bool.false_eq_true, if_false]
   refine wpAny_bind (wpAny_holding (wpAny_pyIter_tuple ht ?_))
   refine wpAny_bind (wpAny_holding (wpAny_draw_tuple hlt items.size 0 _ _ ⟨_, Heap.get?_push_size _ rfl, rfl, rfl⟩ (ht.push _) (by omega) fun h₁ hit₁ hs₁ => ?_))
   have hall : List.take items.size (List.drop 0 items.toList) = items.toList := by
     rw [List.drop_zero]; exact List.take_of_length_le (by simp)
   rw [hall, if_neg (by simp)]
   have ht₁ : h₁.IsTuple t items := (ht.push _).extBut hs₁.extBut hlt
   have he₁ : h₁.get? e = some oe := hs₁.extBut _ _ helt (Heap.get?_push_of_some _ he)
   refine wpAny_bind (wpAny_holding (tuple_end_held (i := items.size) hh he₁ hde h2 helt (by simpa using hit₁) ht₁ (by simp) fun h₂ he₂ => ?_))
   simp only [Option.isSome_none, Bool.false_eq_true, if_false]
   exact wpAny_pure (h h₂ fun b o hb e'' => he₂ b o hb (hs₁.extBut b o hb (Heap.get?_push_of_some _ e'')))
theorem assign_Tuple_any {env : Env} {elts : List Expr} {x1 : Nat} {pos : Pos} {t : Addr} {items : Array Value} {Q : Unit → Shared → Prop} {h₀ : Heap} {L : Addr} {m : Str → Option Value} {news : List (Addr × Obj)} (H : Held2 A news) (F : Fr h₀ L s.heap m) (N : News h₀ L s.heap news)
   (ht : s.heap.IsTuple t items) (hn : (assignEach elts env).length = items.size) (hstar : (assignEach elts env).findIdx? (·.1) = none)
   (h : ∀ h', Fr h₀ L h' m → News h₀ L h' news → wpAny (model prog w) A (assignInOrder ((assignEach elts env).map (·.2)) items.toList) Q E { s with heap := h' }) :
   wpAny (model prog w) A (assign (.Tuple elts x1 pos) env (.ref t)) Q E s := by
 have go : ∀ h', Heap.ExtBut s.heap.objs.size s.heap h' → Fr h₀ L h' m ∧ News h₀ L h' news := fun h' k =>
   have up : ∀ b o, s.heap.get? b = some o → h'.get? b = some o := fun b o e => k b o (Nat.ne_of_lt (Heap.lt_size e)) e
   ⟨F.keeps up, fun p hp => ⟨up _ _ (N p hp).1, (N p hp).2⟩⟩
 rcases H with hh | ⟨e, oe, ves, hh, hm, hd, h2⟩
 · exact wpAny_assign_Tuple hh ht hn hstar fun h' k => h h' (go h' k).1 (go h' k).2
 · exact assign_Tuple_held hh (N _ hm).1 hd h2 ht hn hstar fun h' k => h h' (go h' k).1 (go h' k).2
end
theorem Held2.more {A A' : Around} {l l' : List (Addr × Obj)} (H : Held2 A l) (e : A'.handled = A.handled) (h : ∀ p ∈ l, p ∈ l') : Held2 A' l' := by
 rcases H with hh | ⟨a, oe, ves, hh, hm, r⟩
 · exact .inl (e.trans hh)
 · exact .inr ⟨a, oe, ves, e.trans hh, h _ hm, r⟩
end
section
inductive HZTH : {α : Type} → Sem α → Prop
 | c0 (a1 a2 a3) : HZTH (setAttr a1 a2 a3)
 | c1 (a1 a2 a3 a4 a5) : HZTH (assign (Expr.Tuple a1 a2 a3) a4 a5)
namespace ZTH
theorem hzt {α : Type} {M : Model} {A : Around} {t : Sem α} {Q : α → Shared → Prop} {E : Value → Shared → Prop} {s : Shared} (_ : HZTH t) (h : wpAny M A t Q E s) : wpAny M A t Q E s := h
end ZTH
open ZTH
theorem news_swap22 {h₀ h : Heap} {L : Addr} {a b c e : Addr × Obj} {r : List (Addr × Obj)} (N : News h₀ L h (a :: b :: c :: e :: r)) : News h₀ L h (c :: e :: a :: b :: r) := sbn N (by repeat' (first | exact sb0 | exact sbs | refine sbc ?_ ?_ | refine sba ?_ ?_ | refine sbt ?_ | refine sbl sbs | refine sbr ?_ | exact .head _ | refine .tail _ ?_ | refine List.mem_append_right _ ?_))
theorem news_thing {h₀ h : Heap} {L : Addr} {a b c d e l f g : Addr × Obj} {r : List (Addr × Obj)} (N : News h₀ L h (a :: b :: c :: d :: e :: l :: f :: g :: r)) : News h₀ L h (l :: g :: ([a, b, c, d, e, f] ++ r)) := sbn N (by repeat' (first | exact sb0 | exact sbs | refine sbc ?_ ?_ | refine sba ?_ ?_ | refine sbt ?_ | refine sbl sbs | refine sbr ?_ | exact .head _ | refine .tail _ ?_ | refine List.mem_append_right _ ?_))
theorem news_swap12 {h₀ h : Heap} {L : Addr} {a c e : Addr × Obj} {r : List (Addr × Obj)} (N : News h₀ L h (a :: c :: e :: r)) : News h₀ L h (c :: e :: a :: r) := sbn N (by repeat' (first | exact sb0 | exact sbs | refine sbc ?_ ?_ | refine sba ?_ ?_ | refine sbt ?_ | refine sbl sbs | refine sbr ?_ | exact .head _ | refine .tail _ ?_ | refine List.mem_append_right _ ?_))
theorem news_thing2 {h₀ h : Heap} {L : Addr} {a b c l f g : Addr × Obj} {r : List (Addr × Obj)} (N : News h₀ L h (a :: b :: c :: l :: f :: g :: r)) : News h₀ L h (l :: g :: ([a, b, c, f] ++ r)) := sbn N (by repeat' (first | exact sb0 | exact sbs | refine sbc ?_ ?_ | refine sba ?_ ?_ | refine sbt ?_ | refine sbl sbs | refine sbr ?_ | exact .head _ | refine .tail _ ?_ | refine List.mem_append_right _ ?_))
theorem lofFr {h₀ h : Heap} {L : Addr} {m : Str → Option Value} (_ : Fr h₀ L h m) : ∃ B : Nat, B = L := ⟨L, rfl⟩
noncomputable abbrev tab2 (c1 c2 : Addr) : Array Value := #[rawInt (107 : Nat), rawInt (23 : Nat), .ref c1, rawInt (111 : Nat), rawInt (19 : Nat), .ref c2]
noncomputable def CodeObj2 (c : Addr) (led : List (Addr × Obj)) : Prop := ∃ oc vs t, (c, oc) ∈ led ∧ oc.data = .fields vs ∧ vs[1]? = some (.str ("_law_thing.<locals>.<lambda>" : Str) t)
noncomputable def Apps (w : World) (ap l : Addr) (need : List (Addr × Obj)) : Prop :=
 ∀ (A : Around) (h₀ : Heap) (L : Addr) (m : Str → Option Value) (s : Shared) (E : Value → Shared → Prop) (Q : Value → Shared → Prop) (vs : List Value) (n : Nat) (k : Value) (rest : List (Addr × Obj)),
   Cx w 360 A L h₀ → Fr h₀ L s.heap m → News h₀ L s.heap ((l, listOf vs.toArray n) :: rest) → (∀ p ∈ need, p ∈ (l, listOf vs.toArray n) :: rest) → (∀ p ∈ rest, p.1 ≠ l) → vs.length ≤ 1000 →
   (∀ h' tk, Fr h₀ L h' m → News h₀ L h' ((l, listOf (vs ++ [k]).toArray (n + 1)) :: rest) → Q .none { s with heap := h', toks := tk }) →
   wpAny (model PySem.Challenge.rw_wy0029_01.row.prog w) A (call (.ref ap) [k]) Q E s
inductive NodeAt (w : World) (led : List (Addr × Obj)) (t l a : Addr) (tag : Str) : Prop
 | mk (fd : FuncData) (d : Addr) (od : Obj) (md : Str → Option Value) (ap : Addr) (need : List (Addr × Obj)) (h1 : (t, ({ cls := .type "function", dict := some d, data := .func fd } : Obj)) ∈ led) (h2 : (d, od) ∈ led) (h3 : FA.DOb od md 5) (h4 : ∃ tt, md "tag" = some (.str tag tt)) (h5 : md "attrib" = some (.ref a)) (h6 : md "kids" = some (.ref l))
   (h7 : md "append" = some (.ref ap)) (h8 : md "makeelement" = some (.ref 109)) (h9 : ∀ p ∈ need, p ∈ led) (h10 : ∃ fd' : FuncData, (ap, ({ cls := .type "function", data := .func fd' } : Obj)) ∈ need) (h11 : Apps w ap l need)
theorem NodeAt.more {w : World} {led led' : List (Addr × Obj)} {t l a : Addr} {tag : Str} (x : NodeAt w led t l a tag) (h : ∀ p ∈ led, p ∈ led') : NodeAt w led' t l a tag := by
 obtain ⟨fd, d, od, md, ap, need, h1, h2, h3, h4, h5, h6, h7, h8, h9, h10, h11⟩ := x
 exact ⟨fd, d, od, md, ap, need, h _ h1, h _ h2, h3, h4, h5, h6, h7, h8, fun p hp => h _ (h9 p hp), h10, h11⟩
theorem NodeAt.gTag {w : World} {led st : List (Addr × Obj)} {t l a : Addr} {tag : Str} {A : Around} {h₀ : Heap} {L : Addr} {s : Shared} {E : Value → Shared → Prop} {Q : Value → Shared → Prop} {expr} (x : NodeAt w st t l a tag) (N : News h₀ L s.heap led) (hst : ∀ p ∈ st, p ∈ led) (h : ∀ tt, Q (.str tag tt) { s with toks := s.toks + 1 }) :
   wpAny (model PySem.Challenge.rw_wy0029_01.row.prog w) A (getAttr (.ref t) "tag" expr) Q E s := by
 obtain ⟨fd, d, od, md, ap, need, q1, q2, q3, ⟨tt, q4⟩⟩ := x
 exact FA.get (N _ (hst _ q1)).1 rfl rfl rfl (q3.ns (N _ (hst _ q2)).1) q4 rfl FA.no_tag (h tt)
theorem NodeAt.gAttrib {w : World} {led st : List (Addr × Obj)} {t l a : Addr} {tag : Str} {A : Around} {h₀ : Heap} {L : Addr} {s : Shared} {E : Value → Shared → Prop} {Q : Value → Shared → Prop} {expr} (x : NodeAt w st t l a tag) (N : News h₀ L s.heap led) (hst : ∀ p ∈ st, p ∈ led) (h : Q (.ref a) { s with toks := s.toks + 1 }) :
   wpAny (model PySem.Challenge.rw_wy0029_01.row.prog w) A (getAttr (.ref t) "attrib" expr) Q E s := by
 obtain ⟨fd, d, od, md, ap, need, q1, q2, q3, q4, q5⟩ := x
 exact FA.get (N _ (hst _ q1)).1 rfl rfl rfl (q3.ns (N _ (hst _ q2)).1) q5 rfl FA.no_attrib h
theorem NodeAt.gKids {w : World} {led st : List (Addr × Obj)} {t l a : Addr} {tag : Str} {A : Around} {h₀ : Heap} {L : Addr} {s : Shared} {E : Value → Shared → Prop} {Q : Value → Shared → Prop} {expr} (x : NodeAt w st t l a tag) (N : News h₀ L s.heap led) (hst : ∀ p ∈ st, p ∈ led) (h : Q (.ref l) { s with toks := s.toks + 1 }) :
   wpAny (model PySem.Challenge.rw_wy0029_01.row.prog w) A (getAttr (.ref t) "kids" expr) Q E s := by
 obtain ⟨fd, d, od, md, ap, need, q1, q2, q3, q4, q5, q6⟩ := x
 exact FA.get (N _ (hst _ q1)).1 rfl rfl rfl (q3.ns (N _ (hst _ q2)).1) q6 rfl FA.no_kids h
section
variable {w : World} {A : Around} {h₀ : Heap} {L : Addr} {m : Str → Option Value} {rest : List (Addr × Obj)} {s : Shared} {E : Value → Shared → Prop} {Q : Value → Shared → Prop}
set_option maxHeartbeats 4000000 in
theorem thing_first {tag : Str} {tt : Tok} {da : Addr} {st : List (Addr × Obj)} (C : Cx w 330 A L h₀) (H : Held2 A rest) (F : Fr h₀ L s.heap m) (N : News h₀ L s.heap ((104, tabObj #[]) :: rest)) (hr : ∀ p ∈ rest, p.1 ≠ 104)
   (h : ∀ h' tk (t l B : Addr) (own : List (Addr × Obj)) (c1 c2 : Addr), Fr h₀ L h' m → News h₀ L h' ((l, listOf #[] 0) :: (104, tabObj (tab2 c1 c2)) :: (own ++ rest)) → NodeAt w (own ++ st) t l da tag → CodeObj2 c2 (own ++ st) → AllLt B rest → @LE.le Nat _ B l → (∀ p ∈ own, @LE.le Nat _ B p.1 ∧ p.1 ≠ l) → @LT.lt Nat _ 104 B → Q (.ref t) { s with heap := h', toks := tk }) :
   wpAny (model PySem.Challenge.rw_wy0029_01.row.prog w) A (call (.ref 109) [.str tag tt, .ref da]) Q E s := by
 (((rename Cx _ _ _ _ _ => c0z); (obtain ⟨hdz, huz, hAz, hfz, hkz, Bz, Xz, CT1z, CT2z, Tz⟩ := c0z); (refine lift_around hdz huz hAz ?_); (try refine wpAny_noRaise ?_); (have q0z : (PySem.Challenge.rw_wy0029_01, fun P => (Mine.hd.heap_1 P).length) = (PySem.Challenge.rw_wy0029_01, fun P => (Mine.hd.heap_1 P).length) := by k_fill; rfl); clear q0z); (refine wpAny_call ?_); (refine' code_defC ?k1 ?k2 ?k3 ?k4 ?k5 ?kA ?kF ?kK ?k6 ?k7 ?k8 ?k9 ?kB ?kD ?_ ?c2 ?c3 ?c4; (case kA => exact rfl); (case kF => first | assumption | exact rfl); (case kK => first | assumption | exact rfl); (case k1 => k_asm); (case k2 => k_asm); (case k3 => k_asm); (case k4 => k_asm); (case k5 => k_asm); (case k6 => k_is); (case k7 => k_is); (case k8 => k_room); (case k9 => first | exact BindsTo.of_eq rfl | exact binds_K (by k_in) rfl (by k_is) rfl rfl rfl | (refine' kp_binds ?kx ?ke; (case kx => k_in); (case ke => exact fun _ => rfl))); (case kB => exact rfl); (case kD => decide +kernel); (case c2 => exact rfl); (case c3 => exact rfl); (case c4 => exact rfl); k_whole; intro gz' Lz' hz' tkz' cellsz' FGz' Fz' Nz' Yz' Bz' Xz' Tz' l1z; (have c1z' := CodeHd.keeps (c := 125) (P := 123) (by assumption) (Fr.keep FGz')); (have c2z' := CodeHd.keeps (c := 108) (P := 104) (by assumption) (Fr.keep FGz')); (try k_lt l1z); k_cells Yz'; (try simp only [List.cons_append, List.nil_append] at Nz'); (try dsimp only); (try k_lift Bz'); (try k_fold)); (refine wpAny_noRaise ?_))
 walk_at "zs"
 rename Fr _ _ _ _ => F1
 rename News _ _ _ _ => N1
 refine assign_Tuple_any (H.more rfl fun p hp => ?_) F1 N1 ⟨_, (N1 _ (.head _)).1, rfl, _, rfl⟩ rfl rfl fun h2 F2 N2 => ?_
 · repeat (first | exact hp | refine .tail _ ?_)
 walk_at "zs"
 (try clear F1 N1 F2 N2)
 rename Fr _ _ _ _ => F3
 rename News _ _ _ _ => N3
 refine FA.set0 F3 (fun p hp => N3 p (.tail _ hp)) rfl rfl rfl (by k_all) FA.no_tag ?_
 intro h4 tk4 d od4 F4 N4 D4 td l4
 k_lt l4
 (try clear F3 N3)
 walk_at "zs"
 refine FA.set1 F4 N4 rfl rfl rfl td (by k_all) D4 (by decide) FA.no_attrib ?_
 intro h5 tk5 od5 F5 N5 D5
 (try clear F4 N4 D4)
 walk_at "zs"
 refine FA.set1 F5 N5 rfl rfl rfl td (by k_all) D5 (by decide) FA.no_kids ?_
 intro h6 tk6 od6 F6 N6 D6
 (try clear F5 N5 D5)
 walk_at "zs"
 rename Fr _ _ _ _ => F7
 rename News _ _ _ _ => N7
 refine FA.set1 F7 (news_swap22 N7) rfl rfl rfl td (by k_all) D6 (by decide) FA.no_append ?_
 intro h8 tk8 od8 F8 N8 D8
 walk_at "zs"
 refine FA.set1 F8 N8 rfl rfl rfl td (by k_all) D8 (by decide) FA.no_make ?_
 intro h9 tk9 od9 F9 N9 D9
 walk_at "zs"
 rename Fr _ _ _ _ => kF
 rename News _ _ _ _ => kN
 obtain ⟨B, hB⟩ := lofFr F9
 repeat (rename _ ∧ _ => hAnd'; obtain ⟨hl', hr'⟩ := hAnd')
 refine h _ _ _ _ B _ _ _ kF (news_thing kN) ⟨_, d, od9, _, _, List.drop 2 [_, _, _, _, _, _], .head _, .tail _ (.head _), D9, ⟨tt, rfl⟩, rfl, rfl, rfl, rfl, fun p hp => List.mem_append_left _ (List.mem_of_mem_drop hp), ⟨_, .head _⟩, ?_⟩ ⟨_, _, _, List.mem_append_left _ (.tail _ (.tail _ (.tail _ (.head _)))), by assumption, by assumption⟩ (by rw [hB]; assumption) (by omega) ?_ (by omega)
 · clear hB h H N hr F kF kN
   intro A h₀ L m s E Q vs n k rest C F N hn hl hlen h
   simp only [List.drop_succ_cons, List.drop_zero] at hn
   have m1 := hn _ (.head _)
   have m2 := hn _ (.tail _ (.head _))
   have m4 := hn _ (.tail _ (.tail _ (.tail _ (.head _))))
   clear hn
   ((((rename Cx _ _ _ _ _ => c0z); (obtain ⟨hdz, huz, hAz, hfz, hkz, Bz, Xz, CT1z, CT2z, Tz⟩ := c0z); (refine lift_around hdz huz hAz ?_); (try refine wpAny_noRaise ?_); (have q0z : (PySem.Challenge.rw_wy0029_01, fun P => (Mine.hd.heap_1 P).length) = (PySem.Challenge.rw_wy0029_01, fun P => (Mine.hd.heap_1 P).length) := by k_fill; rfl); clear q0z); (refine wpAny_call ?_); (refine' kla_code ?k1 ?k2 ?k3 ?k4 ?k5 ?kA ?kF ?kK ?k6 ?k7 ?k8 ?k9 ?kB ?_ ?c2 ?c3 ?c4 ?c5; (case kA => exact rfl); (case kF => first | assumption | exact rfl); (case kK => first | assumption | exact rfl); (case k1 => k_asm); (case k2 => k_asm); (case k3 => k_asm); (case k4 => k_asm); (case k5 => k_asm); (case k6 => k_mem); (case k7 => exact codeRec_news (by k_asm) (by k_mem) (by assumption) (by assumption)); (case k8 => k_room); (case k9 => exact rfl); (case c5 => decide); (case kB => exact locs rfl); (case c2 => exact rfl); (case c3 => exact rfl); (case c4 => exact rfl); k_whole; intro gz' Lz' hz' FGz' Fz' Nz' Bz' Xz' Tz'; (have c1z' := CodeHd.keeps (c := 125) (P := 123) (by assumption) (Fr.keep FGz')); (have c2z' := CodeHd.keeps (c := 108) (P := 104) (by assumption) (Fr.keep FGz')); (try dsimp only); (try k_lift Bz'); (try k_fold))))
   walk_at "zs"
   rename News _ _ _ _ => kN
   rename Fr _ _ _ _ => kF
   rw [List.push_toArray] at kN
   exact h _ _ kF kN
 · repeat' (first | exact ac0 | refine ac ?_ ?_)
   all_goals (constructor <;> k_ne)
set_option maxHeartbeats 4000000 in
theorem thing_next {tag : Str} {tt : Tok} {da : Addr} {c1 c2 : Addr} {st : List (Addr × Obj)} (C : Cx w 330 A L h₀) (H : Held2 A rest) (F : Fr h₀ L s.heap m) (N : News h₀ L s.heap ((104, tabObj (tab2 c1 c2)) :: rest)) (hr : ∀ p ∈ rest, p.1 ≠ 104) (hc : CodeObj2 c2 st)
   (h : ∀ h' tk (t l B : Addr) (own : List (Addr × Obj)) (c1 c2 : Addr), Fr h₀ L h' m → News h₀ L h' ((l, listOf #[] 0) :: (104, tabObj (tab2 c1 c2)) :: (own ++ rest)) → NodeAt w (own ++ st) t l da tag → CodeObj2 c2 (own ++ st) → AllLt B rest → @LE.le Nat _ B l → (∀ p ∈ own, @LE.le Nat _ B p.1 ∧ p.1 ≠ l) → @LT.lt Nat _ 104 B → Q (.ref t) { s with heap := h', toks := tk }) :
   wpAny (model PySem.Challenge.rw_wy0029_01.row.prog w) A (call (.ref 109) [.str tag tt, .ref da]) Q E s := by
 (((rename Cx _ _ _ _ _ => c0z); (obtain ⟨hdz, huz, hAz, hfz, hkz, Bz, Xz, CT1z, CT2z, Tz⟩ := c0z); (refine lift_around hdz huz hAz ?_); (try refine wpAny_noRaise ?_); (have q0z : (PySem.Challenge.rw_wy0029_01, fun P => (Mine.hd.heap_1 P).length) = (PySem.Challenge.rw_wy0029_01, fun P => (Mine.hd.heap_1 P).length) := by k_fill; rfl); clear q0z); (refine wpAny_call ?_); (refine' code_defC ?k1 ?k2 ?k3 ?k4 ?k5 ?kA ?kF ?kK ?k6 ?k7 ?k8 ?k9 ?kB ?kD ?_ ?c2 ?c3 ?c4; (case kA => exact rfl); (case kF => first | assumption | exact rfl); (case kK => first | assumption | exact rfl); (case k1 => k_asm); (case k2 => k_asm); (case k3 => k_asm); (case k4 => k_asm); (case k5 => k_asm); (case k6 => k_is); (case k7 => k_is); (case k8 => k_room); (case k9 => first | exact BindsTo.of_eq rfl | exact binds_K (by k_in) rfl (by k_is) rfl rfl rfl | (refine' kp_binds ?kx ?ke; (case kx => k_in); (case ke => exact fun _ => rfl))); (case kB => exact rfl); (case kD => decide +kernel); (case c2 => exact rfl); (case c3 => exact rfl); (case c4 => exact rfl); k_whole; intro gz' Lz' hz' tkz' cellsz' FGz' Fz' Nz' Yz' Bz' Xz' Tz' l1z; (have c1z' := CodeHd.keeps (c := 125) (P := 123) (by assumption) (Fr.keep FGz')); (have c2z' := CodeHd.keeps (c := 108) (P := 104) (by assumption) (Fr.keep FGz')); (try k_lt l1z); k_cells Yz'; (try simp only [List.cons_append, List.nil_append] at Nz'); (try dsimp only); (try k_lift Bz'); (try k_fold)); (refine wpAny_noRaise ?_))
 obtain ⟨oc2, vs2, t2, mc2, dc2, ec2⟩ := hc
 walk_at "zs"
 rename Fr _ _ _ _ => F1
 rename News _ _ _ _ => N1
 refine assign_Tuple_any (H.more rfl fun p hp => ?_) F1 N1 ⟨_, (N1 _ (.head _)).1, rfl, _, rfl⟩ rfl rfl fun h2 F2 N2 => ?_
 · repeat (first | exact hp | refine .tail _ ?_)
 walk_at "zs"
 (try clear F1 N1 F2 N2)
 rename Fr _ _ _ _ => F3
 rename News _ _ _ _ => N3
 refine FA.set0 F3 (fun p hp => N3 p (.tail _ hp)) rfl rfl rfl (by k_all) FA.no_tag ?_
 intro h4 tk4 d od4 F4 N4 D4 td l4
 k_lt l4
 (try clear F3 N3)
 walk_at "zs"
 refine FA.set1 F4 N4 rfl rfl rfl td (by k_all) D4 (by decide) FA.no_attrib ?_
 intro h5 tk5 od5 F5 N5 D5
 (try clear F4 N4 D4)
 walk_at "zs"
 refine FA.set1 F5 N5 rfl rfl rfl td (by k_all) D5 (by decide) FA.no_kids ?_
 intro h6 tk6 od6 F6 N6 D6
 (try clear F5 N5 D5)
 walk_at "zs"
 rename Fr _ _ _ _ => F7
 rename News _ _ _ _ => N7
 refine FA.set1 F7 (news_swap12 N7) rfl rfl rfl td (by k_all) D6 (by decide) FA.no_append ?_
 intro h8 tk8 od8 F8 N8 D8
 walk_at "zs"
 refine FA.set1 F8 N8 rfl rfl rfl td (by k_all) D8 (by decide) FA.no_make ?_
 intro h9 tk9 od9 F9 N9 D9
 walk_at "zs"
 rename Fr _ _ _ _ => kF
 rename News _ _ _ _ => kN
 obtain ⟨B, hB⟩ := lofFr F9
 repeat (rename _ ∧ _ => hAnd'; obtain ⟨hl', hr'⟩ := hAnd')
 refine h _ _ _ _ B _ _ _ kF (news_thing2 kN) ⟨_, d, od9, _, _, (c2, oc2) :: List.drop 2 [_, _, _, _], .head _, .tail _ (.head _), D9, ⟨tt, rfl⟩, rfl, rfl, rfl, rfl, fun p hp => (List.mem_cons.mp hp).elim (fun e => e ▸ List.mem_append_right _ mc2) (fun hp => List.mem_append_left _ (List.mem_of_mem_drop hp)), ⟨_, .tail _ (.head _)⟩, ?_⟩ ⟨_, _, _, List.mem_append_right _ mc2, dc2, ec2⟩ (by rw [hB]; assumption) (by omega) ?_ (by omega)
 · clear hB h H N hr F kF kN
   intro A h₀ L m s E Q vs n k rest C F N hn hl hlen h
   simp only [List.drop_succ_cons, List.drop_zero] at hn
   have m1 := hn _ (.head _)
   have m2 := hn _ (.tail _ (.head _))
   have m4 := hn _ (.tail _ (.tail _ (.head _)))
   clear hn
   ((((rename Cx _ _ _ _ _ => c0z); (obtain ⟨hdz, huz, hAz, hfz, hkz, Bz, Xz, CT1z, CT2z, Tz⟩ := c0z); (refine lift_around hdz huz hAz ?_); (try refine wpAny_noRaise ?_); (have q0z : (PySem.Challenge.rw_wy0029_01, fun P => (Mine.hd.heap_1 P).length) = (PySem.Challenge.rw_wy0029_01, fun P => (Mine.hd.heap_1 P).length) := by k_fill; rfl); clear q0z); (refine wpAny_call ?_); (refine' kla_code ?k1 ?k2 ?k3 ?k4 ?k5 ?kA ?kF ?kK ?k6 ?k7 ?k8 ?k9 ?kB ?_ ?c2 ?c3 ?c4 ?c5; (case kA => exact rfl); (case kF => first | assumption | exact rfl); (case kK => first | assumption | exact rfl); (case k1 => k_asm); (case k2 => k_asm); (case k3 => k_asm); (case k4 => k_asm); (case k5 => k_asm); (case k6 => k_mem); (case k7 => exact codeRec_news (by k_asm) (by k_mem) (by assumption) (by assumption)); (case k8 => k_room); (case k9 => exact rfl); (case c5 => decide); (case kB => exact locs rfl); (case c2 => exact rfl); (case c3 => exact rfl); (case c4 => exact rfl); k_whole; intro gz' Lz' hz' FGz' Fz' Nz' Bz' Xz' Tz'; (have c1z' := CodeHd.keeps (c := 125) (P := 123) (by assumption) (Fr.keep FGz')); (have c2z' := CodeHd.keeps (c := 108) (P := 104) (by assumption) (Fr.keep FGz')); (try dsimp only); (try k_lift Bz'); (try k_fold))))
   walk_at "zs"
   rename News _ _ _ _ => kN
   rename Fr _ _ _ _ => kF
   rw [List.push_toArray] at kN
   exact h _ _ kF kN
 · repeat' (first | exact ac0 | refine ac ?_ ?_)
   all_goals (constructor <;> k_ne)
end
end
section
section
variable {prog : Program} {w : World} {K : Type} [DecidableEq K] {knd : KeyKind prog w K} {A : Around} {E : Value → Shared → Prop} {s : Shared}
theorem lk_part {M : Model} {Γ : Ctx} {a : Addr} {part : Option Value} {Q : Unit → Pos → Shared → Prop} {E : Value → Pos → Shared → Prop} {p : Pos} {s : Shared} (h : Sem.wp M Γ (lookBehind a part) Q E p s) : Sem.wp M Γ (lookBehind a none) Q E p s := by
 unfold lookBehind at h ⊢
 rw [Sem.wp_bind', Sem.wp_cmd_loadPart] at h ⊢
 exact h
theorem keys_part {M : Model} {Γ : Ctx} {a : Addr} {f : Array DictEntry → Array DictEntry} {part : Option Value} {Q : Unit → Pos → Shared → Prop} {E : Value → Pos → Shared → Prop} {p : Pos} {s : Shared} (h : Sem.wp M Γ (updateDictKeys a f part) Q E p s) : Sem.wp M Γ (updateDictKeys a f none) Q E p s := by
 unfold updateDictKeys at h ⊢
 rw [Sem.wp_bind', Sem.wp_cmd_loadPart] at h ⊢
 obtain ⟨o, ho, h⟩ := h
 refine ⟨o, ho, ?_⟩
 revert h
 cases o.data with
 | dict es n =>
   intro h
   dsimp only at h ⊢
   rw [Sem.wp_bind', Sem.wp_cmd_updatePart] at h ⊢
   exact ⟨h.1, lk_part h.2⟩
 | _ => exact fun h => h
theorem dict_part {M : Model} {Γ : Ctx} {a : Addr} {f : Array DictEntry → Array DictEntry} {part : Option Value} {Q : Unit → Pos → Shared → Prop} {E : Value → Pos → Shared → Prop} {p : Pos} {s : Shared} (h : Sem.wp M Γ (updateDict a f part) Q E p s) : Sem.wp M Γ (updateDict a f none) Q E p s := by
 unfold updateDict at h ⊢
 rw [Sem.wp_bind', Sem.wp_cmd_loadPart] at h ⊢
 obtain ⟨o, ho, h⟩ := h
 refine ⟨o, ho, ?_⟩
 revert h
 cases o.data with
 | dict es n =>
   intro h
   dsimp only at h ⊢
   rw [Sem.wp_bind', Sem.wp_cmd_updatePart, Sem.wp_bind', Sem.wp_cmd_loadPart] at h ⊢
   exact h
 | _ => exact fun h => h
theorem put_of_set {d : Addr} {key v : Value} {hsh : Int} {Q : Unit → Shared → Prop} (h : wpAny (model prog w) A (dictSetHashed d key hsh v) Q E s) : wpAny (model prog w) A (dictPut d hsh key v) Q E s := fun Γ p hΓ => by
 have h' := h Γ p hΓ
 unfold dictSetHashed at h'
 unfold dictPut
 rw [Sem.wp_holding, Sem.wp_bind'] at h'
 rw [Sem.wp_bind']
 refine Sem.wp_mono _ Γ _ (fun r p' s' hr => ?_) (fun _ _ _ x => x) p s h'
 cases r with
 | none => exact keys_part hr
 | some i =>
   replace hr : Sem.wp (model prog w) Γ (updateDict d (fun x => x.modify i fun e => { e with val := v }) (keyPart key) >>= fun _ => point) (fun a _ s' => Q a s') (fun e _ s' => E e s') p' s' := hr
   rw [Sem.wp_bind'] at hr
   exact dict_part (Sem.wp_mono _ Γ _ (fun _ _ _ x => x) (fun _ _ _ x => x) _ _ hr)
theorem x2a6 {α β : Sort _} {p0 p1 p2 p3 p4 p5 : α → β → Prop} {G : Prop} (h : ∃ a b, p0 a b ∧ p1 a b ∧ p2 a b ∧ p3 a b ∧ p4 a b ∧ p5 a b) (k : ∀ a b, p0 a b → p1 a b → p2 a b → p3 a b → p4 a b → p5 a b → G) : G := h.elim fun a h => h.elim fun b h => k a b h.1 h.2.1 h.2.2.1 h.2.2.2.1 h.2.2.2.2.1 h.2.2.2.2.2
theorem merge_ok {d a : Addr} {kvs more : List (K × Value)} {Q : Unit → Shared → Prop} (hda : d ≠ a) (hna : (a == sysModules) = false) (hd : s.heap.DictOf knd d kvs) (ha : s.heap.DictOf knd a more) (hnr : ∀ k key, knd.is k key = true → ∀ b, key ≠ .ref b) (hsz : kvs.length + more.length ≤ 1000)
   (hQ : ∀ h', h'.DictOf knd d (merged kvs more) → Heap.SameBut d s.heap h' → Q () { s with heap := h' }) :
   wpAny (model prog w) A (mergeMapping d (.ref a) false) Q E s := by
 have hTa : s.TypeIs (.ref a) "dict" := ha.typeIs
 unfold mergeMapping
 refine wpAny_bind ?_
 refine wpAny_isInstance hTa isSubtype_dict_dict ?_
 rw [if_pos rfl]
 refine wpAny_bind (wpAny_specialOf hTa PySem.F.slot_dict_iter.lookup (wpAny_bind (wpAny_pure ?_)))
 simp only [beq_self_eq_true]
 rw [hna]
 refine x3a6 (id ha) ?_; rintro oa esa epa hoa hca hda' hka hpa hnoa
 refine x3a6 (id hd) ?_; rintro od esd epd hod hcd hdd hkd hpd hnd
 have hlen : more.length = esa.size := by have := hpa.length; simpa using this.symm
 have loop : wpAny (model prog w) A (do
     let size := (← dictEntries a).size
     let epoch ← dictEpoch a
     for i in List.range size do
       let some e := (← dictEntries a)[i]? | unsupported "dict.changed-during-merge"
       holding [e.key, e.val] do
         if false then
           if (← dictFind d e.key e.hash).isSome then rule "dict.merge.duplicate-key"; raiseNew (← newExc (.type "KeyError") [e.key])
         dictPut d e.hash e.key e.val
       if (← dictEpoch a) != epoch then unsupported "dict.changed-during-merge") Q E s := by
   refine wpAny_bind (wpAny_dictEntries hoa hda' ?_)
   refine wpAny_bind (wpAny_dictEpoch hoa hda' ?_)
   refine wpAny_bind ?_
   refine wpAny_forIn_list _
     (fun rest _ s' => ∃ h' i, s' = { s with heap := h' } ∧ rest = List.range' i (esa.size - i) ∧ i ≤ esa.size ∧ h'.DictOf knd d (merged kvs (more.take i)) ∧ h'.get? a = some oa ∧ Heap.SameBut d s.heap h')
     _ ?_ ?_ _ _ ⟨s.heap, 0, rfl, by simp [List.range_eq_range'], Nat.zero_le _, by simpa [merged] using hd, hoa, Heap.SameBut.refl _ _⟩
   · intro x rest b s' HI
     refine x2a6 HI ?_; clear HI; rintro h' i rfl hr hi hdx hax hs'
     have hlt : i < esa.size := by
       rcases Nat.lt_or_ge i esa.size with h | h
       · exact h
       · rw [Nat.sub_eq_zero_of_le h] at hr; simp at hr
     obtain ⟨rfl, hrest⟩ : x = i ∧ rest = List.range' (i + 1) (esa.size - (i + 1)) := by
       rw [show esa.size - i = (esa.size - (i + 1)) + 1 from (Nat.succ_pred_eq_of_pos (Nat.sub_pos_of_lt hlt)).symm, List.range'_succ] at hr
       injection hr with h1 h2
       exact ⟨h1, h2⟩
     refine wpAny_bind (wpAny_dictEntries hax hda' ?_)
     rw [Array.getElem?_eq_getElem hlt]
     obtain ⟨⟨k, v⟩, hkv⟩ : ∃ kv, more[x]? = some kv := ⟨more[x]'(by rw [hlen]; exact hlt), List.getElem?_eq_getElem _⟩
     obtain ⟨hkey, hval⟩ := hpa.get? (e := esa[x]) (by simp [hlt]) hkv
     obtain ⟨k', hkey', hhash⟩ := hka esa[x] (Array.getElem_mem hlt)
     obtain rfl : k' = k := knd.inj _ _ _ hkey' hkey
     dsimp only
     simp only [Bool.false_eq_true, if_false]
     rw [hhash, hval]
     have hmx : (merged kvs (more.take x)).length ≤ sizeLine := by
       have e1 := merged_length_le kvs (more.take x)
       have e2 : (more.take x).length ≤ more.length := by rw [List.length_take]; exact Nat.min_le_right _ _
       rw [sizeLine_eq]
       omega
     refine wpAny_bind (wpAny_holding (put_of_set (wpAny_dictSetHashed_pairs (hsz := hmx) hkey hdx fun h2 hd2 hs2 => ?_)))
     have ha2 : h2.get? a = some oa := (hs2.2 a (Ne.symm hda)).trans hax
     refine wpAny_bind (wpAny_dictEpoch ha2 hda' ?_)
     rw [if_neg (by simp)]
     exact wpAny_pure ⟨h2, x + 1, rfl, hrest, hlt, by rw [merged_take_succ kvs more x _ hkv]; exact hd2, ha2, hs'.trans hs2⟩
   · intro b s' HI
     refine x2a6 HI ?_; clear HI; rintro h' i rfl hr hi hdx hax hs'
     have hin : i = esa.size := by
       rcases Nat.lt_or_ge i esa.size with h | h
       · rw [show esa.size - i = (esa.size - (i + 1)) + 1 from (Nat.succ_pred_eq_of_pos (Nat.sub_pos_of_lt h)).symm, List.range'_succ] at hr; exact nomatch hr
       · exact Nat.le_antisymm hi h
     refine wpAny_pure (hQ h' ?_ hs')
     rw [hin, ← hlen, List.take_length] at hdx; exact hdx
 refine wpAny_bind (wpAny_dictEntries hod hdd ?_)
 split
 · refine wpAny_bind (wpAny_dictEntries hoa hda' ?_)
   refine wpAny_bind ?_
   rw [← Array.forIn_toList]
   refine wpAny_forIn_list _ (fun rest _ s' => s' = s ∧ ∀ e ∈ rest, e ∈ esa.toList) _ ?_ ?_ _ _ ⟨rfl, fun e he => he⟩
   · rintro e rest b s' ⟨rfl, hm⟩
     obtain ⟨k, hk, _⟩ := hka e (by simpa using hm e (.head _))
     have hk' : knd.is k e.key = true := by assumption
     have := hnr k e.key hk'
     revert this
     cases e.key with
     | ref b => exact fun x => absurd rfl (x b)
     | _ => exact fun _ => wpAny_pure ⟨rfl, fun e he => hm e (.tail _ he)⟩
   · rintro b s' ⟨rfl, _⟩
     exact loop
 · exact loop
end
section
variable {prog : Program} {w : World} {A : Around} {E : Value → Shared → Prop} {s : Shared} {h₀ : Heap} {L a1 a2 : Addr} {m : Str → Option Value} {news : List (Addr × Obj)} {cn : Str} {cs : Scope} {a : Addr} {ccd : Value}
theorem notRef_str {k : Str} {key : Value} (h : (PySem.strKind prog w).is k key = true) : ∀ b, key ≠ .ref b := by
 rintro b rfl
 cases h
theorem disp2_ok {x y : Str} {px py pos : Pos} {o1 o2 : Obj} {kvs1 kvs2 : List (Str × Value)} {Q : Value → Shared → Prop} (F : Fr h₀ L s.heap m) (N : News h₀ L s.heap news) (hx : m x = some (.ref a1)) (hy : m y = some (.ref a2))
   (m1 : (a1, o1) ∈ news) (d1 : o1.IsDictOf (PySem.strKind prog w) kvs1) (m2 : (a2, o2) ∈ news) (d2 : o2.IsDictOf (PySem.strKind prog w) kvs2) (n1 : (a1 == sysModules) = false) (n2 : (a2 == sysModules) = false) (hsz : kvs1.length + kvs2.length ≤ 500) (hbig : h₀.NoLimit)
   (h : ∀ h' d od, Fr h₀ L h' m → News h₀ L h' ((d, od) :: news) → AllLt d news → (d == sysModules) = false → od.IsDictOf (PySem.strKind prog w) (merged (merged [] kvs1) kvs2) → Q (.ref d) { s with heap := h' })
   (hk : cs.kind = .function) (hlx : (envOf cn cs L a ccd).kindOf x = some .local) (hly : (envOf cn cs L a ccd).kindOf y = some .local) (hdx : (x == ("__debug__" : Str)) = false) (hdy : (y == ("__debug__" : Str)) = false) :
   wpAny (model prog w) A (eval (.Dict [none, none] [.Name x px, .Name y py] pos) (envOf cn cs L a ccd)) Q E s := by
 have tb : ∀ {x : Sem Unit} {z : Value → Sem Unit} {s : Shared} {P : Unit → Shared → Prop} {f g : Value → Sem Unit}, wpAny (model prog w) A x P (fun _ _ => False) s → wpAny (model prog w) A (((x.onRaise f).tryCatch z).onRaise g) P E s := fun hx =>
   wpAny_onRaise (wpAny_mono (wpAny_tryCatch (E := fun _ _ => False) (wpAny_onRaise (wpAny_mono hx (fun _ _ q => q) fun _ _ q => q.elim))) (fun _ _ q => q) fun _ _ q => q.elim)
 show wpAny _ _ (standAt pos >>= fun _ => dictDisplay [(none, do let v ← eval (.Name x px) (envOf cn cs L a ccd); standAt pos; pure v), (none, do let v ← eval (.Name y py) (envOf cn cs L a ccd); standAt pos; pure v)]) Q E s
 refine wpAny_bind (wpAny_standAt ?_)
 unfold dictDisplay
 simp only [List.forIn_cons, List.forIn_nil, List.isEmpty_nil, if_true]
 have hm := N (a1, o1) m1
 have fresh : ∀ (h' : Heap) (news : List (Addr × Obj)) (d : Addr) (od : Obj), Fr h₀ L h' m → News h₀ L h' ((d, od) :: news) → (∀ p ∈ news, p.1 ≠ d) → ∀ h'', Heap.SameBut d h' h'' → ∀ od', h''.get? d = some od' → Fr h₀ L h'' m ∧ News h₀ L h'' ((d, od') :: news) := fun h' news d od F N hn h'' hs od' e => by
   have zd := N (d, od) (.head _)
   have zL : d ≠ L := zd.2.1
   have z0 : h₀.get? d = none := zd.2.2
   refine ⟨⟨F.ns.at' fun o e => hs.extBut _ o (Ne.symm zL) e, fun b o e => hs.extBut b o (fun q => by rw [q, z0] at e; cases e) (F.keep b o e), F.above⟩, fun p hp => ?_⟩
   rcases List.mem_cons.mp hp with rfl | hp
   · exact ⟨e, zd.2⟩
   · exact ⟨hs.extBut _ _ (hn p hp) (N p (.tail _ hp)).1, (N p (.tail _ hp)).2⟩
 refine wpAny_bind (wpAny_bind (wpAny_bind (wpAny_pure ?_)))
 dsimp only
 refine wpAny_bind (wpAny_alloc ?_)
 obtain ⟨F1, N1, l1⟩ := FA.news_push (ob := dictOf [] 0) F N rfl
 have hne : ∀ p ∈ news, p.1 ≠ s.heap.objs.size := fun p hp => Nat.ne_of_lt (l1 p hp)
 refine wpAny_bind (wpAny_holding (wpAny_bind (ld F1 hx (wpAny_bind (wpAny_standAt (wpAny_pure ?_))) hk hlx hdx)))
 have g0 : Heap.DictOf (PySem.strKind prog w) (s.heap.push (dictOf [] 0)) s.heap.objs.size [] := Heap.DictOf.new s.heap
 refine wpAny_bind (tb (wpAny_holding (merge_ok (kvs := []) (more := kvs1) (Ne.symm (hne _ m1)) n1 g0 (Heap.dictOf_iff.mpr ⟨o1, (N1 _ (.tail _ m1)).1, d1⟩) (fun _ _ => notRef_str) (by simp; omega) fun h2 hd2 hs2 => ?_)))
 obtain ⟨od2, e2, hd2⟩ := Heap.dictOf_iff.mp hd2
 obtain ⟨F2, N2⟩ := fresh _ _ _ _ F1 N1 hne h2 hs2 _ e2
 refine wpAny_pure ?_
 dsimp only
 refine wpAny_bind (wpAny_bind (wpAny_pure ?_))
 dsimp only
 refine wpAny_bind (wpAny_pure ?_)
 refine wpAny_bind (wpAny_holding (wpAny_bind (ld F2 hy (wpAny_bind (wpAny_standAt (wpAny_pure ?_))) hk hly hdy)))
 have hlen := merged_length_le [] kvs1
 simp only [List.length_nil] at hlen
 refine wpAny_bind (tb (wpAny_holding (merge_ok (kvs := merged [] kvs1) (more := kvs2) (Ne.symm (hne _ m2)) n2 (Heap.dictOf_iff.mpr ⟨od2, e2, hd2⟩) (Heap.dictOf_iff.mpr ⟨o2, (N2 _ (.tail _ m2)).1, d2⟩) (fun _ _ => notRef_str) (by omega) fun h3 hd3 hs3 => ?_)))
 obtain ⟨od3, e3, hd3⟩ := Heap.dictOf_iff.mp hd3
 obtain ⟨F3, N3⟩ := fresh _ _ _ _ F2 N2 hne h3 hs3 _ e3
 refine wpAny_pure ?_
 dsimp only
 refine wpAny_pure ?_
 dsimp only
 simp only [List.isEmpty_nil, if_true]
 refine wpAny_bind (wpAny_pure ?_)
 dsimp only
 exact wpAny_pure (h _ _ _ F3 N3 (allLt_of l1) (F.notModules (modules_low hbig)) hd3)
end
end
section
inductive HZSE : {α : Type} → Sem α → Prop
 | c0 (a1 a2 a3) : HZSE (eval (Expr.Dict [none, none] a1 a2) a3)
 | c1 (a1 a2 a3) : HZSE (getMethod a1 a2 a3)
namespace ZSE
theorem hzt {α : Type} {M : Model} {A : Around} {t : Sem α} {Q : α → Shared → Prop} {E : Value → Shared → Prop} {s : Shared} (_ : HZSE t) (h : wpAny M A t Q E s) : wpAny M A t Q E s := h
end ZSE
open ZSE
theorem news_front4 {h₀ h : Heap} {L : Addr} {a b c e : Addr × Obj} {r : List (Addr × Obj)} (N : News h₀ L h (a :: b :: c :: e :: r)) : News h₀ L h (e :: a :: b :: c :: r) := sbn N (by repeat' (first | exact sb0 | exact sbs | refine sbc ?_ ?_ | refine sba ?_ ?_ | refine sbt ?_ | refine sbl sbs | refine sbr ?_ | exact .head _ | refine .tail _ ?_ | refine List.mem_append_right _ ?_))
theorem news_lp {h₀ h : Heap} {L : Addr} {l t a b c : Addr × Obj} {own r : List (Addr × Obj)} (N : News h₀ L h (l :: t :: (own ++ (a :: b :: c :: r)))) : News h₀ L h (c :: l :: t :: ((own ++ [a, b]) ++ r)) := sbn N (by repeat' (first | exact sb0 | exact sbs | refine sbc ?_ ?_ | refine sba ?_ ?_ | refine sbt ?_ | refine sbl sbs | refine sbr ?_ | exact .head _ | refine .tail _ ?_ | refine List.mem_append_right _ ?_))
theorem news_pack {h₀ h : Heap} {L : Addr} {a b c : Addr × Obj} {own r : List (Addr × Obj)} (N : News h₀ L h (a :: b :: c :: (own ++ r))) : ∃ Z, News h₀ L h (a :: b :: c :: (Z ++ r)) ∧ Z = own := ⟨own, N, rfl⟩
theorem CodeObj2.more {c : Addr} {l l' : List (Addr × Obj)} (x : CodeObj2 c l) (h : ∀ p ∈ l, p ∈ l') : CodeObj2 c l' := by
 obtain ⟨oc, vs, t, h1, r⟩ := x
 exact ⟨oc, vs, t, h _ h1, r⟩
theorem AllLt.mem {d : Addr} : ∀ {l : List (Addr × Obj)}, AllLt d l → ∀ p ∈ l, @LT.lt Nat _ p.1 d
 | [], _, _, h => nomatch h
 | _ :: _, x, p, h => by
   rcases List.mem_cons.mp h with rfl | h
   · exact x.1
   · exact AllLt.mem x.2 p h
section
variable {w : World} {A : Around} {h₀ : Heap} {L : Addr} {m : Str → Option Value} {rest : List (Addr × Obj)} {s : Shared} {E : Value → Shared → Prop} {Q : Value → Shared → Prop}
set_option maxHeartbeats 4000000 in
theorem sub_ok {tg : Str} {t lp a tb c1 c2 : Addr} {ks : List Value} {n : Nat} {v nm : Int} {t1 t2 t3 t4 t5 t6 : Tok} {otb : Obj} {st : List (Addr × Obj)} (C : Cx w 320 A L h₀) (H : Held2 A rest) (F : Fr h₀ L s.heap m) (N : News h₀ L s.heap ((lp, listOf ks.toArray n) :: (104, tabObj (tab2 c1 c2)) :: rest))
   (hr : ∀ p ∈ rest, p.1 ≠ 104) (hl : ∀ p ∈ rest, p.1 ≠ lp) (hl4 : @Ne Nat lp 104) (hlen : ks.length ≤ 1000) (hst : ∀ p ∈ st, p ∈ rest)
   (hP : NodeAt w st t lp a tg) (hc : CodeObj2 c2 st) (htb : (tb, otb) ∈ rest) (hns : (tb == sysModules) = false) (dtb : otb.IsDictOf (PySem.strKind PySem.Challenge.rw_wy0029_01.row.prog w) [("mark", .int 7 t5), ("value", .int 9 t6)])
   (h : ∀ h' tk (t' l' B a' : Addr) (oa : Obj) (own : List (Addr × Obj)) (c1 c2 : Addr), Fr h₀ L h' m → News h₀ L h' ((lp, listOf (ks ++ [Value.ref t']).toArray (n + 1)) :: (l', listOf #[] 0) :: (104, tabObj (tab2 c1 c2)) :: (own ++ rest)) →
     NodeAt w (own ++ st) t' l' a' "joint" → (a', oa) ∈ own → (a' == sysModules) = false → oa.IsDictOf (PySem.strKind PySem.Challenge.rw_wy0029_01.row.prog w) [("mark", .int 7 t5), ("value", .int v t2), ("name", .int nm t3)] → CodeObj2 c2 (own ++ st) →
     AllLt B rest → @LT.lt Nat _ lp B → @LT.lt Nat _ 104 B → @LE.le Nat _ B l' → (∀ p ∈ own, @LE.le Nat _ B p.1 ∧ p.1 ≠ l') → Q (.ref t') { s with heap := h', toks := tk }) :
   wpAny (model PySem.Challenge.rw_wy0029_01.row.prog w) A (call (.ref 102) [.ref t, .str "joint" t1, .ref tb] [("value", .int v t2), ("name", .int nm t3)]) Q E s := by
 (((rename Cx _ _ _ _ _ => c0z); (obtain ⟨hdz, huz, hAz, hfz, hkz, Bz, Xz, CT1z, CT2z, Tz⟩ := c0z); (refine lift_around hdz huz hAz ?_); (try refine wpAny_noRaise ?_); (have q0z : (PySem.Challenge.rw_wy0029_01, fun P => (Mine.hd.heap_1 P).length) = (PySem.Challenge.rw_wy0029_01, fun P => (Mine.hd.heap_1 P).length) := by k_fill; rfl); clear q0z))
 refine wpAny_call ?_
 ((refine' kp_more ?k1 ?k2 ?k3 ?k4 ?k5 ?kA ?kF ?kK ?k6 ?k7 ?k8 ?kX ?kM ?kN ?kD ?kR ?kP ?kT ?kB ?_ ?c2 ?c3 ?c4 ?c5; (case kA => exact rfl); (case kF => first | assumption | exact rfl); (case kK => first | assumption | exact rfl); (case k1 => k_asm); (case k2 => k_asm); (case k3 => k_asm); (case k4 => k_asm); (case k5 => k_asm); (case k6 => k_is); (case k7 => k_is); (case k8 => k_room); (case kX => kp_lit); (case kM => exact rfl); (case kN => exact rfl); (case kD => kp_flats); (case kR => exact rfl); (case kP => exact rfl); (case kT => exact fun _ => rfl); (case kB => exact fun _ => locs rfl); (case c5 => decide); (case c2 => exact rfl); (case c3 => exact rfl); (case c4 => exact rfl); k_whole; intro D' o' g' L' h' tk' l1 lo' hs' fs' FG' F' N' B' X' T'; (have c1' := CodeHd.keeps (c := 125) (P := 123) (by assumption) (Fr.keep FG')); (have c2' := CodeHd.keeps (c := 108) (P := 104) (by assumption) (Fr.keep FG')); (try k_lt l1); (try dsimp only); (try k_lift B'); (try k_fold)))
 walk_at "zs"
 rename Fr _ _ _ _ => F1
 rename News _ _ _ _ => N1
 rename Obj.IsDictOf _ _ _ => D1
 rename (_ < _ ∧ _ < _ ∧ AllLt _ _) => hl1
 rename Top _ _ _ _ _ _ => TT
 have htb' := List.mem_cons_of_mem (lp, listOf ks.toArray n) (List.mem_cons_of_mem (104, tabObj (tab2 c1 c2)) htb)
 refine disp2_ok F1 N1 rfl rfl (.tail _ htb') dtb (.head _) D1 hns (by assumption) (by simp) TT.nolimit ?_ rfl rfl rfl (by decide) (by decide)
 intro h2 d od F2 N2 l2 dS D2
 simp only [AllLt] at l2
 have D3 : od.IsDictOf (PySem.strKind PySem.Challenge.rw_wy0029_01.row.prog w) [("mark", .int 7 t5), ("value", .int v t2), ("name", .int nm t3)] := D2
 clear D2
 obtain ⟨fd, dd, odd, md, ap, need, q1, q2, q3, q4, q5, q6, q7, q8, q9, q10, q11⟩ := hP
 walk_at "zs"
 rename Fr _ _ _ _ => F3
 rename News _ _ _ _ => N3
 refine FA.method (N3 _ (.tail _ (.tail _ (.tail _ (.tail _ (hst _ q1)))))).1 rfl rfl rfl (q3.ns (N3 _ (.tail _ (.tail _ (.tail _ (.tail _ (hst _ q2)))))).1) q8 rfl FA.no_make ?_
 walk_at "zs"
 refine thing_next (st := st) (by exact .mk (Nat.le_of_ble_eq_true rfl) (Nat.le_of_ble_eq_true rfl) rfl rfl rfl (by assumption) (by assumption) (by assumption) (by assumption) (by assumption)) (H.more rfl fun p hp => .tail _ (.tail _ (.tail _ hp))) F3 (news_front4 N3) (by k_all) hc ?_
 intro h4 tk4 t' l' B own e1 e2 F4 N4 P4 Q4 L4 b1 b2 b3
 obtain ⟨Z, N5, hZ⟩ := news_pack (news_lp N4)
 clear N4
 simp only [AllLt] at L4
 walk_at "zs"
 rename Fr _ _ _ _ => F6
 rename News _ _ _ _ => N6
 obtain ⟨fd', mA⟩ := q10
 have upn : ∀ p ∈ need, p ∈ (lp, listOf ks.toArray n) :: (l', listOf #[] 0) :: (104, tabObj (tab2 e1 e2)) :: (Z ++ rest) := fun p hp => .tail _ (.tail _ (.tail _ (List.mem_append_right _ (hst p (q9 p hp)))))
 have ups : ∀ p ∈ st, p ∈ (lp, listOf ks.toArray n) :: (l', listOf #[] 0) :: (104, tabObj (tab2 e1 e2)) :: (Z ++ rest) := fun p hp => .tail _ (.tail _ (.tail _ (List.mem_append_right _ (hst p hp))))
 have mA' := upn _ mA
 have hZB : ∀ p ∈ Z, @LT.lt Nat _ lp p.1 ∧ p.1 ≠ l' := by
   rw [hZ]
   intro p hp
   rcases List.mem_append.mp hp with hp | hp
   · have := (b2 p hp).1
     exact ⟨by omega, (b2 p hp).2⟩
   · rcases List.mem_cons.mp hp with rfl | hp
     · exact ⟨by dsimp only; omega, by k_ne⟩
     · rw [List.mem_singleton.mp hp]
       exact ⟨by dsimp only; omega, by k_ne⟩
 refine FA.method (N6 _ (ups _ q1)).1 rfl rfl rfl (q3.ns (N6 _ (ups _ q2)).1) q7 rfl FA.no_append ?_
 walk_at "zs"
 refine q11 _ _ _ _ _ _ _ _ _ _ _ (by exact .mk (Nat.le_of_ble_eq_true rfl) (Nat.le_of_ble_eq_true rfl) rfl rfl rfl (by assumption) (by assumption) (by assumption) (by assumption) (by assumption)) F6 N6 upn ?_ hlen ?_
 · intro p hp
   rcases List.mem_cons.mp hp with rfl | hp
   · k_ne
   · rcases List.mem_cons.mp hp with rfl | hp
     · exact Ne.symm hl4
     · rcases List.mem_append.mp hp with hp | hp
       · have := (hZB p hp).1
         k_ne
       · exact hl p hp
 intro h7 tk7 F7 N7
 walk_at "zs"
 rename Fr _ _ _ _ => kF
 rename News _ _ _ _ => kN
 have mo : ∀ p ∈ own ++ st, p ∈ Z ++ st := fun p hp => (List.mem_append.mp hp).elim (fun hp => List.mem_append_left _ (by rw [hZ]; exact List.mem_append_left _ hp)) fun hp => List.mem_append_right _ hp
 refine h _ _ t' l' _ d od Z e1 e2 kF kN (P4.more mo) (by rw [hZ]; exact List.mem_append_right _ (.head _)) dS D3 (Q4.more mo) hl1.2.2 hl1.1 hl1.2.1 (by omega) ?_
 rw [hZ]
 intro p hp
 rcases List.mem_append.mp hp with hp | hp
 · have := (b2 p hp).1
   exact ⟨by omega, (b2 p hp).2⟩
 · rcases List.mem_cons.mp hp with rfl | hp
   · exact ⟨by dsimp only; omega, by k_ne⟩
   · rw [List.mem_singleton.mp hp]
     exact ⟨Nat.le_refl _, by k_ne⟩
end
end
section
namespace FA
open Builtin Builtin.ObjectAttr
section
variable {prog : Program} {w : World} {A : Around} {E : Value → Shared → Prop} {s : Shared} {t d : Addr} {o : Obj} {md : Str → Option Value} {name : Str} {v : Value} {fill : Bool} {fd : FuncData} {Q : Value → Shared → Prop} {u : Tok}
theorem getBy (ht : s.heap.get? t = some o) (hc : o.cls = .type "function") (hf : o.data = .func fd) (hd : o.dict = some d) (hn : s.heap.Ns d md) (hl : md name = some v) (hv : handedIn v = true)
   (hno : typeLookup (.type "function") name = pure none) (h : Q v s) : wpAny (model prog w) A (getAttrBy (.ref t) (.str name u) fill false) Q E s := by
 unfold getAttrBy
 have hT : s.TypeIs (.ref t) "function" := ⟨o, ht, hc⟩
 refine wpAny_holding (wpAny_bind (wpAny_typeOf (T := "function") ⟨o, ht, hc⟩ ?_))
 refine wpAny_bind (wpAny_of_eq ga ?_)
 show wpAny _ _ (getAttrByItsOwn _ _ _ _ _ _) _ _ _
 unfold getAttrByItsOwn
 refine wpAny_bind (wpAny_pure (wpAny_bind (wpAny_attempt (wpAny_holding ?_))))
 unfold callGetattribute
 rw [show (false && onTheHeap (.builtin "object.__getattribute__")) = false from rfl]
 show wpAny _ _ (boundAndCalled _ _ _) _ _ _
 unfold boundAndCalled
 rw [slot_ga.bind]
 refine wpAny_bind (wpAny_pure ?_)
 refine wpAny_call (codeAny_call_builtin slot_ga.plain entry_ga (slot_ga.check _ _ _ _ _ _ _ _ (by exact hT) (by exact PySem.F.args_object_getattribute_2 _ _) ?_))
 unfold Builtin.«object.__getattribute__»
 refine wpAny_bind (wpAny_of_eq (a := (Value.ref t, [Value.str name u])) rfl ?_)
 refine wpAny_bind (wpAny_of_eq (a := name) rfl ?_)
 refine wpAny_bind (wpAny_typeOf (T := "function") (by exact hT) ?_)
 unfold find
 refine wpAny_bind (wpAny_bind (wpAny_of_eq hno ?_))
 refine wpAny_bind (wpAny_of_eq (a := none) rfl ?_)
 refine wpAny_bind (wpAny_of_eq (a := none) rfl ?_)
 obtain ⟨oc, odi, oda, osl⟩ := o
 dsimp only at hc hf hd
 subst hc hf hd
 unfold ownThenClass inOwnDict ObjectAttr.ownDict
 refine wpAny_bind (wpAny_bind (wpAny_bind (wpAny_loadPart (by exact ht) ?_)))
 show wpAny _ _ (instanceDict t false) _ _ _
 unfold instanceDict
 refine wpAny_bind (wpAny_loadPart (by exact ht) ?_)
 refine wpAny_pure (a := some d) ?_
 show wpAny _ _ (nsGet d name) _ _ _
 refine wpAny_nsGet (by exact hn) ?_
 rw [hl]
 refine wpAny_bind (wpAny_rule (wpAny_pure (wpAny_pure ?_)))
 show wpAny _ _ (handedOut v) _ _ _
 rw [handedOut_of hv]
 exact wpAny_pure h
end
theorem ha_kind : builtinKind "hasattr" = none := by decide +kernel
theorem ha_plain : plainId "hasattr" = true := by decide +kernel
theorem ha_entry : entryFor table "hasattr" = some Builtin.«hasattr» := entryFor_of_tree (by kernel_rfl)
theorem ha_args (a b : Value) : argsOk "hasattr" ⟨[a, b], []⟩ := by unfold argsOk; kernel_rfl
theorem fn_mod : isSubtype (.type "function") (.type "module") = pure false := by rw [isSubtype_type]; kernel_rfl
theorem list_mod : isSubtype (.type "list") (.type "module") = pure false := by rw [isSubtype_type]; kernel_rfl
theorem dict_mod : isSubtype (.type "dict") (.type "module") = pure false := by rw [isSubtype_type]; kernel_rfl
theorem list_tag : typeLookup (.type "list") "tag" = pure none := by rw [typeLookup_type, builtinLookup_eq_fast]; kernel_rfl
theorem dict_tag : typeLookup (.type "dict") "tag" = pure none := by rw [typeLookup_type, builtinLookup_eq_fast]; kernel_rfl
section
variable {prog : Program} {w : World} {A : Around} {E : Value → Shared → Prop} {s : Shared} {t : Addr} {T : String} {u : Tok} {Q : Value → Shared → Prop}
theorem hasattr_ok {R : Option Value → Shared → Prop} (hT : s.TypeIs (.ref t) T) (hmod : isSubtype (.type T) (.type "module") = pure false) (hno : typeLookup (.type T) "tag" = pure none)
   (h : wpAny (model prog w) A.in1 (getAttrBy (.ref t) (.str "tag" u) false false) (fun v s' => R (some v) s') (fun e s' => s'.TypeIs e "AttributeError" ∧ R none s') s)
   (hR : ∀ v s', R v s' → Q (.bool v.isSome) s') : wpAny (model prog w) A (call (.builtin "hasattr") [.ref t, .str "tag" u]) Q E s := by
 refine kmb_tree ha_kind ha_plain ha_entry (ha_args _ _) ?_
 unfold Builtin.«hasattr»
 refine wpAny_bind (wpAny_of_eq (a := [Value.ref t, .str "tag" u]) rfl ?_)
 dsimp only
 refine wpAny_bind (wpAny_of_eq (a := ()) rfl ?_)
 rw [if_neg (show ¬ ((Value.ref t == Value.builtin "__main__.__loader__#opaque") = true) from Bool.false_ne_true)]
 try dsimp only
 refine wpAny_bind (wpAny_typeOf hT ?_)
 dsimp only
 refine wpAny_bind (wpAny_of_eq (a := some ("tag" : Str)) rfl ?_)
 dsimp only
 refine wpAny_bind (wpAny_of_eq hno ?_)
 dsimp only
 refine wpAny_bind ?_
 show wpAny _ _ (asStr? (Value.str ("tag" : Str) u) >>= _) _ _ _
 refine wpAny_bind (wpAny_of_eq (a := some ("tag" : Str)) rfl ?_)
 show wpAny _ _ (isInstance (.ref t) (.type "module") >>= _) _ _ _
 refine wpAny_bind (wpAny_isInstance hT hmod ?_)
 show wpAny _ _ (pure 0) _ _ _
 refine wpAny_pure ?_
 rw [if_neg (by decide)]
 refine wpAny_bind ?_
 unfold getAttrBy?
 refine wpAny_bind (wpAny_attempt (wpAny_mono h (fun v s' hv => ?_) fun e s' he => ?_))
 · refine wpAny_pure ?_
   have := hR _ _ hv
   rw [if_neg (by simp)]
   exact wpAny_pure this
 · refine wpAny_bind (wpAny_isInstance he.1 sub_AttributeError ?_)
   rw [if_pos rfl]
   refine wpAny_pure ?_
   rw [if_neg (by decide)]
   exact wpAny_pure (hR _ _ he.2)
theorem hasattr_fn {o : Obj} {d : Addr} {md : Str → Option Value} {v : Value} {fd : FuncData} (ht : s.heap.get? t = some o) (hc : o.cls = .type "function") (hf : o.data = .func fd) (hd : o.dict = some d) (hn : s.heap.Ns d md) (hl : md "tag" = some v) (hv : handedIn v = true)
   (h : Q (.bool true) s) : wpAny (model prog w) A (call (.builtin "hasattr") [.ref t, .str "tag" u]) Q E s :=
 hasattr_ok (R := fun v s' => v.isSome = true ∧ s' = s) ⟨o, ht, hc⟩ fn_mod no_tag (getBy ht hc hf hd hn hl hv no_tag ⟨rfl, rfl⟩) (fun v s' hv => by rw [hv.1, hv.2]; exact h)
theorem hasattr_list {h₀ : Heap} {L : Addr} {m : Str → Option Value} {news : List (Addr × Obj)} {xs : Array Value} {k : Nat} (hh : A.handled = none) (F : Fr h₀ L s.heap m) (N : News h₀ L s.heap news) (hm : (t, listOf xs k) ∈ news)
   (h : ∀ h' tk, Fr h₀ L h' m → News h₀ L h' news → Q (.bool false) { s with heap := h', toks := tk }) : wpAny (model prog w) A (call (.builtin "hasattr") [.ref t, .str "tag" u]) Q E s := by
 have hx := (N _ hm).1
 have hT : ∀ tk', ({ s with toks := tk' } : Shared).TypeIs (.ref t) "list" := fun _ => ⟨_, hx, rfl⟩
 refine hasattr_ok (R := fun v s' => v = none ∧ ∃ h' tk, s' = { s with heap := h', toks := tk } ∧ Fr h₀ L h' m ∧ News h₀ L h' news) ⟨_, hx, rfl⟩ list_mod list_tag ?_ (fun v s' hv => by
   obtain ⟨rfl, h', tk, rfl, F', N'⟩ := hv
   exact h h' tk F' N')
 have f1 := sub_AttributeError
 have f3 := PySem.F.slot_list_getattribute.lookup
 have f4 := PySem.F.slot_list_getattribute.bind (.ref t)
 have f5 := am_list_getattr_none
 unfold getAttrBy
 repeat (any_goals (first | assumption | exact hT _ | ((with_reducible show wpAny _ _ (call (Value.builtin "list.__getattribute__") _ _) _ _ _); refine call_meets PySem.F.slot_list_getattribute (hT _) am_entry_list_getattribute (PySem.F.args_list_getattribute_2 _ _) (meets_getattribute_miss_list t xs k #[] "tag" _ list_tag (by decide) (by decide +kernel)) ⟨hx, hh, fun h' tk' e hx' => ?_⟩) | wp_step))
 obtain ⟨t', u', he⟩ := hx'.there
 show wpAny _ _ (getattributeRaised _ _ _ _ _ _ _) _ _ _
 unfold getattributeRaised
 repeat (any_goals (first | assumption | wp_step))
 exact ⟨⟨_, he, rfl⟩, rfl, _, _, rfl, F.keeps hx'.keeps, fun p hp => ⟨hx'.keeps _ _ (N p hp).1, (N p hp).2⟩⟩
theorem hasattr_dict {h₀ : Heap} {L : Addr} {m : Str → Option Value} {news : List (Addr × Obj)} {o : Obj} {es : Array DictEntry} {k : Nat} (hh : A.handled = none) (F : Fr h₀ L s.heap m) (N : News h₀ L s.heap news) (hm : (t, o) ∈ news) (hc : o.cls = .type "dict") (hd : o.dict = none) (hs : o.slots = #[]) (he : o.data = .dict es k)
   (h : ∀ h' tk, Fr h₀ L h' m → News h₀ L h' news → Q (.bool false) { s with heap := h', toks := tk }) : wpAny (model prog w) A (call (.builtin "hasattr") [.ref t, .str "tag" u]) Q E s := by
 obtain ⟨oc, od, oda, osl⟩ := o
 dsimp only at hc hd hs he
 subst hc hd hs he
 have hx := (N _ hm).1
 have hT : ∀ tk', ({ s with toks := tk' } : Shared).TypeIs (.ref t) "dict" := fun _ => ⟨_, hx, rfl⟩
 refine hasattr_ok (R := fun v s' => v = none ∧ ∃ h' tk, s' = { s with heap := h', toks := tk } ∧ Fr h₀ L h' m ∧ News h₀ L h' news) ⟨_, hx, rfl⟩ dict_mod dict_tag ?_ (fun v s' hv => by
   obtain ⟨rfl, h', tk, rfl, F', N'⟩ := hv
   exact h h' tk F' N')
 have f1 := sub_AttributeError
 have f3 := PySem.F.slot_dict_getattribute.lookup
 have f4 := PySem.F.slot_dict_getattribute.bind (.ref t)
 have f5 := am_dict_getattr_none
 unfold getAttrBy
 repeat (any_goals (first | assumption | exact hT _ | ((with_reducible show wpAny _ _ (call (Value.builtin "dict.__getattribute__") _ _) _ _ _); refine call_meets PySem.F.slot_dict_getattribute (hT _) am_entry_dict_getattribute (PySem.F.args_dict_getattribute_2 _ _) (meets_getattribute_miss_dict t es k #[] "tag" _ dict_tag (by decide) (by decide +kernel)) ⟨hx, hh, fun h' tk' e hx' => ?_⟩) | wp_step))
 obtain ⟨t', u', he⟩ := hx'.there
 show wpAny _ _ (getattributeRaised _ _ _ _ _ _ _) _ _ _
 unfold getattributeRaised
 repeat (any_goals (first | assumption | wp_step))
 exact ⟨⟨_, he, rfl⟩, rfl, _, _, rfl, F.keeps hx'.keeps, fun p hp => ⟨hx'.keeps _ _ (N p hp).1, (N p hp).2⟩⟩
end
end FA
end
section
inductive HZIE2 : {α : Type} → Sem α → Prop
 | c0 (a1 a2) : HZIE2 (call (Value.builtin "hasattr") a1 a2)
namespace ZIE2
theorem hzt {α : Type} {M : Model} {A : Around} {t : Sem α} {Q : α → Shared → Prop} {E : Value → Shared → Prop} {s : Shared} (_ : HZIE2 t) (h : wpAny M A t Q E s) : wpAny M A t Q E s := h
end ZIE2
open ZIE2
section
variable {w : World} {A : Around} {h₀ : Heap} {L : Addr} {m : Str → Option Value} {news : List (Addr × Obj)} {s : Shared} {E : Value → Shared → Prop} {Q : Value → Shared → Prop} {t : Addr}
set_option maxHeartbeats 4000000 in
theorem isel_node {st : List (Addr × Obj)} {l a : Addr} {tg : Str} (C : Cx w 340 A L h₀) (F : Fr h₀ L s.heap m) (N : News h₀ L s.heap news) (hP : NodeAt w st t l a tg) (hst : ∀ p ∈ st, p ∈ news)
   (h : ∀ h' tk, Fr h₀ L h' m → News h₀ L h' news → Q (.bool true) { s with heap := h', toks := tk }) :
   wpAny (model PySem.Challenge.rw_wy0029_01.row.prog w) A (call (.ref 93) [.ref t]) Q E s := by
 (((rename Cx _ _ _ _ _ => c0z); (obtain ⟨hdz, huz, hAz, hfz, hkz, Bz, Xz, CT1z, CT2z, Tz⟩ := c0z); (refine lift_around hdz huz hAz ?_); (try refine wpAny_noRaise ?_); (have q0z : (PySem.Challenge.rw_wy0029_01, fun P => (Mine.hd.heap_1 P).length) = (PySem.Challenge.rw_wy0029_01, fun P => (Mine.hd.heap_1 P).length) := by k_fill; rfl); clear q0z); (refine wpAny_call ?_); (refine' code_def ?k1 ?k2 ?k3 ?k4 ?k5 ?kA ?kF ?kK ?k6 ?k7 ?k8 ?k9 ?kB ?_ ?c2 ?c3 ?c4 ?c5; (case kA => exact rfl); (case kF => first | assumption | exact rfl); (case kK => first | assumption | exact rfl); (case k1 => k_asm); (case k2 => k_asm); (case k3 => k_asm); (case k4 => k_asm); (case k5 => k_asm); (case k6 => k_is); (case k7 => k_is); (case k8 => k_room); (case k9 => first | exact BindsTo.of_eq rfl | exact binds_K (by k_in) rfl (by k_is) rfl rfl rfl | (refine' kp_binds ?kx ?ke; (case kx => k_in); (case ke => exact fun _ => rfl))); (case c5 => decide); (case kB => exact locs rfl); (case c2 => exact rfl); (case c3 => exact rfl); (case c4 => exact rfl); k_whole; intro gz' Lz' hz' FGz' Fz' Nz' Bz' Xz' Tz'; (have c1z' := CodeHd.keeps (c := 125) (P := 123) (by assumption) (Fr.keep FGz')); (have c2z' := CodeHd.keeps (c := 108) (P := 104) (by assumption) (Fr.keep FGz')); (try dsimp only); (try k_lift Bz'); (try k_fold)); (refine wpAny_noRaise ?_))
 obtain ⟨fd, d, od, md, ap, need, q1, q2, q3, ⟨tt, q4⟩, _⟩ := hP
 walk_at "zs"
 rename News _ _ _ _ => N1
 refine FA.hasattr_fn (N1 _ (hst _ q1)).1 rfl rfl rfl (q3.ns (N1 _ (hst _ q2)).1) q4 rfl ?_
 walk_at "zs"
 exact h _ _ (by k_asm) (by k_asm)
set_option maxHeartbeats 4000000 in
theorem isel_list {xs : Array Value} {k : Nat} (C : Cx w 340 A L h₀) (hh : A.handled = none) (F : Fr h₀ L s.heap m) (N : News h₀ L s.heap news) (hm : (t, listOf xs k) ∈ news)
   (h : ∀ h' tk, Fr h₀ L h' m → News h₀ L h' news → Q (.bool false) { s with heap := h', toks := tk }) :
   wpAny (model PySem.Challenge.rw_wy0029_01.row.prog w) A (call (.ref 93) [.ref t]) Q E s := by
 (((rename Cx _ _ _ _ _ => c0z); (obtain ⟨hdz, huz, hAz, hfz, hkz, Bz, Xz, CT1z, CT2z, Tz⟩ := c0z); (refine lift_around hdz huz hAz ?_); (try refine wpAny_noRaise ?_); (have q0z : (PySem.Challenge.rw_wy0029_01, fun P => (Mine.hd.heap_1 P).length) = (PySem.Challenge.rw_wy0029_01, fun P => (Mine.hd.heap_1 P).length) := by k_fill; rfl); clear q0z); (refine wpAny_call ?_); (refine' code_def ?k1 ?k2 ?k3 ?k4 ?k5 ?kA ?kF ?kK ?k6 ?k7 ?k8 ?k9 ?kB ?_ ?c2 ?c3 ?c4 ?c5; (case kA => exact rfl); (case kF => first | assumption | exact rfl); (case kK => first | assumption | exact rfl); (case k1 => k_asm); (case k2 => k_asm); (case k3 => k_asm); (case k4 => k_asm); (case k5 => k_asm); (case k6 => k_is); (case k7 => k_is); (case k8 => k_room); (case k9 => first | exact BindsTo.of_eq rfl | exact binds_K (by k_in) rfl (by k_is) rfl rfl rfl | (refine' kp_binds ?kx ?ke; (case kx => k_in); (case ke => exact fun _ => rfl))); (case c5 => decide); (case kB => exact locs rfl); (case c2 => exact rfl); (case c3 => exact rfl); (case c4 => exact rfl); k_whole; intro gz' Lz' hz' FGz' Fz' Nz' Bz' Xz' Tz'; (have c1z' := CodeHd.keeps (c := 125) (P := 123) (by assumption) (Fr.keep FGz')); (have c2z' := CodeHd.keeps (c := 108) (P := 104) (by assumption) (Fr.keep FGz')); (try dsimp only); (try k_lift Bz'); (try k_fold)); (refine wpAny_noRaise ?_))
 walk_at "zs"
 refine FA.hasattr_list hh (by k_asm) (by k_asm) hm ?_
 intro h1 tk1 F1 N1
 walk_at "zs"
 exact h _ _ (by k_asm) (by k_asm)
set_option maxHeartbeats 4000000 in
theorem isel_dict {o : Obj} {kvs : List (Str × Value)} {prog : Program} (C : Cx w 340 A L h₀) (hh : A.handled = none) (F : Fr h₀ L s.heap m) (N : News h₀ L s.heap news) (hm : (t, o) ∈ news) (hd : o.IsDictOf (PySem.strKind prog w) kvs)
   (h : ∀ h' tk, Fr h₀ L h' m → News h₀ L h' news → Q (.bool false) { s with heap := h', toks := tk }) :
   wpAny (model PySem.Challenge.rw_wy0029_01.row.prog w) A (call (.ref 93) [.ref t]) Q E s := by
 (((rename Cx _ _ _ _ _ => c0z); (obtain ⟨hdz, huz, hAz, hfz, hkz, Bz, Xz, CT1z, CT2z, Tz⟩ := c0z); (refine lift_around hdz huz hAz ?_); (try refine wpAny_noRaise ?_); (have q0z : (PySem.Challenge.rw_wy0029_01, fun P => (Mine.hd.heap_1 P).length) = (PySem.Challenge.rw_wy0029_01, fun P => (Mine.hd.heap_1 P).length) := by k_fill; rfl); clear q0z); (refine wpAny_call ?_); (refine' code_def ?k1 ?k2 ?k3 ?k4 ?k5 ?kA ?kF ?kK ?k6 ?k7 ?k8 ?k9 ?kB ?_ ?c2 ?c3 ?c4 ?c5; (case kA => exact rfl); (case kF => first | assumption | exact rfl); (case kK => first | assumption | exact rfl); (case k1 => k_asm); (case k2 => k_asm); (case k3 => k_asm); (case k4 => k_asm); (case k5 => k_asm); (case k6 => k_is); (case k7 => k_is); (case k8 => k_room); (case k9 => first | exact BindsTo.of_eq rfl | exact binds_K (by k_in) rfl (by k_is) rfl rfl rfl | (refine' kp_binds ?kx ?ke; (case kx => k_in); (case ke => exact fun _ => rfl))); (case c5 => decide); (case kB => exact locs rfl); (case c2 => exact rfl); (case c3 => exact rfl); (case c4 => exact rfl); k_whole; intro gz' Lz' hz' FGz' Fz' Nz' Bz' Xz' Tz'; (have c1z' := CodeHd.keeps (c := 125) (P := 123) (by assumption) (Fr.keep FGz')); (have c2z' := CodeHd.keeps (c := 108) (P := 104) (by assumption) (Fr.keep FGz')); (try dsimp only); (try k_lift Bz'); (try k_fold)); (refine wpAny_noRaise ?_))
 obtain ⟨es, ep, ⟨q1, q2, q3⟩, q4, _⟩ := hd
 walk_at "zs"
 refine FA.hasattr_dict hh (by k_asm) (by k_asm) hm q1 q2 q3 q4 ?_
 intro h1 tk1 F1 N1
 walk_at "zs"
 exact h _ _ (by k_asm) (by k_asm)
end
end
section
inductive HZIX : {α : Type} → Sem α → Prop
 | c0 (a1 a2) : HZIX (call (Value.type "enumerate") a1 a2)
 | c1 (a1) : HZIX (pyIter a1)
 | c2 (a1 a2) : HZIX (compareOp CmpOp.Is a1 a2)
namespace ZIX
theorem hzt {α : Type} {M : Model} {A : Around} {t : Sem α} {Q : α → Shared → Prop} {E : Value → Shared → Prop} {s : Shared} (_ : HZIX t) (h : wpAny M A t Q E s) : wpAny M A t Q E s := h
end ZIX
open ZIX
theorem is_ints {M : Model} {A : Around} {E : Value → Shared → Prop} {s : Shared} {k x : Int} {t u : Tok} {Q : Value → Shared → Prop} (ht : t ≠ 0) (hu : u ≠ 0) (hd : k ≠ x → t ≠ u) (hs : smallInt k = true)
   (h : Q (.bool (k == x)) s) : wpAny M A (compareOp .Is (.int k t) (.int x u)) Q E s := by
 have h0 : (t == 0 || u == 0) = false := by simp [ht, hu]
 show wpAny M A (do let b ← isSame (.int k t) (.int x u); pure (.bool b)) Q E s
 refine wpAny_bind ?_
 unfold isSame
 dsimp only
 by_cases hk : k = x
 · subst hk
   rw [if_pos (by rw [hs]; simp)]
   unfold isSame.cachedInt
   rw [h0]
   refine wpAny_bind (wpAny_rule (wpAny_pure (wpAny_pure ?_)))
   simpa using h
 · have hkx : (k == x) = false := beq_eq_false_iff_ne.mpr hk
   rw [hkx] at h ⊢
   rw [if_neg (by simp)]
   unfold isSame.created
   rw [h0, if_neg (by decide), show (t == u) = false from beq_eq_false_iff_ne.mpr (hd hk), if_neg (by decide), if_pos (by decide)]
   exact wpAny_pure (wpAny_pure h)
noncomputable def IntsT (vs : List Value) (ks : List Int) (x : Int) (t : Tok) : Prop := vs.length = ks.length ∧ ∀ (i : Nat) (v : Value) (k : Int), vs[i]? = some v → ks[i]? = some k → ∃ u, v = .int k u ∧ u ≠ 0 ∧ (k ≠ x → u ≠ t) ∧ smallInt k = true
inductive IxA (a : Addr) (x : Int) (t : Tok) (news : List (Addr × Obj)) (m' : Str → Option Value) (news' : List (Addr × Obj)) : Prop
 | mk (hw : news = news') (e1 : m' "a" = some (.ref a)) (e2 : m' "b" = some (.int x t))
section
variable {w : World} {A : Around} {h₀ : Heap} {L : Addr} {m : Str → Option Value} {news : List (Addr × Obj)} {s : Shared} {E : Value → Shared → Prop} {Q : Value → Shared → Prop}
set_option maxHeartbeats 4000000 in
theorem index_ok {a : Addr} {vs : List Value} {ks : List Int} {n : Nat} {x : Int} {t : Tok} (C : Cx w 340 A L h₀) (hh : A.handled = none) (F : Fr h₀ L s.heap m) (N : News h₀ L s.heap news) (hm : (a, listOf vs.toArray n) ∈ news) (hI : IntsT vs ks x t) (ht : t ≠ 0)
   (r : Nat) (hr : ks[r]? = some x) (hmin : ∀ i, i < r → ks[i]? ≠ some x)
   (h : ∀ h' tk t', Fr h₀ L h' m → News h₀ L h' news → Q (.int r t') { s with heap := h', toks := tk }) :
   wpAny (model PySem.Challenge.rw_wy0029_01.row.prog w) A (call (.ref 71) [.ref a, .int x t]) Q E s := by
 (((rename Cx _ _ _ _ _ => c0z); (obtain ⟨hdz, huz, hAz, hfz, hkz, Bz, Xz, CT1z, CT2z, Tz⟩ := c0z); (refine lift_around hdz huz hAz ?_); (try refine wpAny_noRaise ?_); (have q0z : (PySem.Challenge.rw_wy0029_01, fun P => (Mine.hd.heap_1 P).length) = (PySem.Challenge.rw_wy0029_01, fun P => (Mine.hd.heap_1 P).length) := by k_fill; rfl); clear q0z); (refine wpAny_call ?_); (refine' code_def ?k1 ?k2 ?k3 ?k4 ?k5 ?kA ?kF ?kK ?k6 ?k7 ?k8 ?k9 ?kB ?_ ?c2 ?c3 ?c4 ?c5; (case kA => exact rfl); (case kF => first | assumption | exact rfl); (case kK => first | assumption | exact rfl); (case k1 => k_asm); (case k2 => k_asm); (case k3 => k_asm); (case k4 => k_asm); (case k5 => k_asm); (case k6 => k_is); (case k7 => k_is); (case k8 => k_room); (case k9 => first | exact BindsTo.of_eq rfl | exact binds_K (by k_in) rfl (by k_is) rfl rfl rfl | (refine' kp_binds ?kx ?ke; (case kx => k_in); (case ke => exact fun _ => rfl))); (case c5 => decide); (case kB => exact locs rfl); (case c2 => exact rfl); (case c3 => exact rfl); (case c4 => exact rfl); k_whole; intro gz' Lz' hz' FGz' Fz' Nz' Bz' Xz' Tz'; (have c1z' := CodeHd.keeps (c := 125) (P := 123) (by assumption) (Fr.keep FGz')); (have c2z' := CodeHd.keeps (c := 108) (P := 104) (by assumption) (Fr.keep FGz')); (try dsimp only); (try k_lift Bz'); (try k_fold)); (refine wpAny_noRaise ?_))
 walk_at "zs"
 refine wpAny_For ?_
 walk_at "zs"
 refine zenum hh (by k_asm) (by k_asm) hm ?_
 intro I ow o O h1 S hO hoff hown F1 N1
 walk_at "zs"
 rename Fr _ _ _ _ => F2
 rename News _ _ _ _ => N2
 refine (S [] 0 default).self 0 o news _ _ _ _ _ hO (fun p hp => by rw [List.mem_singleton.mp hp]; exact hm) N2 ?_
 refine zfor (S _ _ _) (fun i m' news' => i ≤ r ∧ IxA a x t news m' news') (fun i m' news' hJ p hp => by obtain ⟨_, rfl, _⟩ := hJ; rw [List.mem_singleton.mp hp]; exact hm) F2 N2 hO hoff ⟨Nat.zero_le _, rfl, rfl, rfl⟩ ?_ ?_
 · intro i v x₁ t₀ o₁ m₁ news₁ h₂ tk₂ hi HJ HP hO₁ ho₁ hx hn₁ F3 N3
   ((refine opq ?_); intro G' hG')
   obtain ⟨hir, rfl, e1, e2⟩ := HJ
   obtain ⟨T, vals, ob, rfl, rfl, ⟨ti, y, hy, rfl⟩, hc, z, hd⟩ := HP
   ((with_reducible rename Opq _ _ => hG'); (refine hG' ?_); clear hG'; (try dsimp only))
   have hy' : vs[i]? = some y := by simpa using hy
   have hlt : i < vs.length := (List.getElem?_eq_some_iff.mp hy').1
   obtain ⟨k, hk⟩ : ∃ k, ks[i]? = some k := ⟨ks[i]'(by rw [← hI.1]; exact hlt), List.getElem?_eq_getElem _⟩
   refine x1a4 (hI.2 i y k hy' hk) ?_; rintro tk' rfl hz hne hsm
   refine zunp hh F3 N3 (.head _) hc hd rfl rfl fun h3 F4 N4 => ?_
   walk_at "zs"
   refine is_ints hz ht hne hsm ?_
   have hir' : k = x → i = r := fun e => by
     rcases Nat.lt_or_ge i r with q | q
     · exact absurd (e ▸ hk) (hmin i q)
     · exact Nat.le_antisymm hir q
   walk_at "zs"
   · obtain rfl := hir' (by assumption)
     (try dsimp only [ZTurn])
     walk_at "zs"
     rename News _ _ _ _ => kN
     exact h _ _ _ (by k_asm) (fun p hp => kN p (List.mem_append_right _ (List.mem_append_right _ hp)))
   · (try dsimp only [ZTurn])
     refine ZNext.intro (by k_asm) (fun p hp => ?_) hn₁ ⟨?_, rfl, by walk_at "zlook", by walk_at "zlook"⟩
     · rename News _ _ _ _ => N9
       exact N9 p (List.mem_append_right _ hp)
     · rcases Nat.lt_or_ge i r with q | q
       · exact q
       · obtain rfl := Nat.le_antisymm hir q
         rw [hr] at hk
         have := Option.some.inj hk
         rename k ≠ x => hk1
         exact absurd this.symm hk1
 · intro h₂ tk₂ m' news' F3 N3 hJ
   have hlt := (List.getElem?_eq_some_iff.mp hr).1
   have := hI.1
   have hle := hJ.1
   have hlen : vs.toArray.size = vs.length := by simp
   exact absurd (Nat.lt_of_le_of_lt (by omega : vs.length ≤ r) hlt) (by omega)
end
end
section
inductive HZIN : {α : Type} → Sem α → Prop
 | c0 (a1 a2) : HZIN (call (Value.type "enumerate") a1 a2)
 | c1 (a1) : HZIN (pyIter a1)
 | c2 (a1 a2) : HZIN (compareOp CmpOp.Is a1 a2)
 | c3 (a1 a2 a3 a4) : HZIN (exec (Stmt.Raise a1 a2 a3) a4)
namespace ZIN
theorem hzt {α : Type} {M : Model} {A : Around} {t : Sem α} {Q : α → Shared → Prop} {E : Value → Shared → Prop} {s : Shared} (_ : HZIN t) (h : wpAny M A t Q E s) : wpAny M A t Q E s := h
theorem hzn {a b c d e f} (h : notedBy a b c d e f) : notedBy a b c d e f := h
end ZIN
open ZIN
section
variable {w : World} {A : Around} {h₀ : Heap} {L : Addr} {m : Str → Option Value} {news : List (Addr × Obj)} {s : Shared} {E : Value → Shared → Prop} {Q : Value → Shared → Prop}
set_option maxHeartbeats 4000000 in
theorem index_no {a : Addr} {vs : List Value} {ks : List Int} {n : Nat} {x : Int} {t : Tok} {env : Env} {outer : List Env} {A₀ : Around} {base : Heap} {p : Program} {loose : List Str} {mean : ExcName → Option Value} {mg mb : Str → Option Value}
   (hd : A.depth ≤ 340) (hu : A.units ≤ 3400) (hA : A.frames = some (env :: outer)) (hf : env.frame = some L) (hk : env.scope.kind = .function) (B : Below A₀ base outer h₀) (X : (Mine.hd.heap_1 w.params).In h₀) (CT1 : CodeHd h₀ 125 123) (CT2 : CodeHd h₀ 108 104) (T : Top p loose mean mg mb h₀)
   (hh : A.handled = none) (F : Fr h₀ L s.heap m) (N : News h₀ L s.heap news) (hm : (a, listOf vs.toArray n) ∈ news) (hI : IntsT vs ks x t) (ht : t ≠ 0) (hno : ∀ i : Nat, ks[i]? ≠ some x)
   (h : ∀ g₂ e tt tm h' tk, Fr h₀ L g₂ m → RaisedS base g₂ (env :: outer) e (.type "ValueError") tt [.str "sequence.index(x): x not in sequence" tm] news h' → g₂.UpToSlots h' → Ctx2 h' e → E (.ref e) { s with heap := h', toks := tk }) :
   wpAny (model PySem.Challenge.rw_wy0029_01.row.prog w) A (call (.ref 71) [.ref a, .int x t]) Q E s := by
 refine lift_around (d := 340) hd hu hA ?_
 have q0 : (PySem.Challenge.rw_wy0029_01, fun P => (Mine.hd.heap_1 P).length) = (PySem.Challenge.rw_wy0029_01, fun P => (Mine.hd.heap_1 P).length) := by k_fill; rfl
 clear q0
 refine wpAny_call ?_
 ((refine' code_def ?k1 ?k2 ?k3 ?k4 ?k5 ?kA ?kF ?kK ?k6 ?k7 ?k8 ?k9 ?kB ?_ ?c2 ?c3 ?c4 ?c5; (case kA => exact rfl); (case kF => first | assumption | exact rfl); (case kK => first | assumption | exact rfl); (case k1 => k_asm); (case k2 => k_asm); (case k3 => k_asm); (case k4 => k_asm); (case k5 => k_asm); (case k6 => k_is); (case k7 => k_is); (case k8 => k_room); (case k9 => first | exact BindsTo.of_eq rfl | exact binds_K (by k_in) rfl (by k_is) rfl rfl rfl | (refine' kp_binds ?kx ?ke; (case kx => k_in); (case ke => exact fun _ => rfl))); (case c5 => decide); (case kB => exact locs rfl); (case c2 => exact rfl); (case c3 => exact rfl); (case c4 => exact rfl); k_whole; intro gz' Lz' hz' FGz' Fz' Nz' Bz' Xz' Tz'; (have c1z' := CodeHd.keeps (c := 125) (P := 123) (by assumption) (Fr.keep FGz')); (have c2z' := CodeHd.keeps (c := 108) (P := 104) (by assumption) (Fr.keep FGz')); (try dsimp only); (try k_lift Bz'); (try k_fold)))
 walk_at "zs"
 refine wpAny_For ?_
 walk_at "zs"
 refine zenum hh (by k_asm) (by k_asm) hm ?_
 intro I ow o O h1 S hO hoff hown F1 N1
 walk_at "zs"
 rename Fr _ _ _ _ => F2
 rename News _ _ _ _ => N2
 refine (S [] 0 default).self 0 o news _ _ _ _ _ hO (fun p hp => by rw [List.mem_singleton.mp hp]; exact hm) N2 ?_
 refine zforE (S _ _ _) (fun i m' news' => IxA a x t news m' news') (fun i m' news' hJ p hp => by obtain ⟨rfl, _⟩ := hJ; rw [List.mem_singleton.mp hp]; exact hm) F2 N2 hO hoff ⟨rfl, rfl, rfl⟩ ?_ ?_
 · intro J' R' σ hJJ i T ob ti y z o₁ m₁ news₁ h₂ tk₂ hi HJ hy hc hd hO₁ ho₁ hn₁ F3 N3
   obtain ⟨rfl, e1, e2⟩ := HJ
   have hy' : vs[i]? = some y := by simpa using hy
   have hlt : i < vs.length := (List.getElem?_eq_some_iff.mp hy').1
   obtain ⟨k, hk⟩ : ∃ k, ks[i]? = some k := ⟨ks[i]'(by rw [← hI.1]; exact hlt), List.getElem?_eq_getElem _⟩
   refine x1a4 (hI.2 i y k hy' hk) ?_; rintro tk' rfl hz hne hsm
   have hkx : k ≠ x := fun e => hno i (e ▸ hk)
   refine zunp hh F3 N3 (.head _) hc hd rfl rfl fun h3 F4 N4 => ?_
   walk_at "zs"
   refine is_ints hz ht hne hsm ?_
   rw [show (k == x) = false from beq_eq_false_iff_ne.mpr hkx]
   walk_at "zs"
   · (try dsimp only [ZTurn])
     refine ZNext.intro (by k_asm) (fun p hp => ?_) hn₁ (hJJ _ _ _ ⟨rfl, by walk_at "zlook", by walk_at "zlook"⟩)
     rename News _ _ _ _ => N9
     exact N9 p (List.mem_append_right _ hp)
 · rintro h₂ tk₂ m' news' F3 N3 ⟨rfl, e1, e2⟩
   walk_at "zs"
   refine Raise_madeB PySem.F.excCall_ValueError PySem.F.excRaise_ValueError hh (name_B F3 (by k_asm) (by k_asm) (by k_is) PyProof.Rows.Boot.«ValueError» (by decide) ⟨rfl, ?_⟩)
   walk_at "zs"
   rename Heap.MadeExc _ _ _ _ _ => hx
   refine else_raises (by k_asm) hx.of (by k_asm) (by k_asm) fun h5 tt R U c => ?_
   exact h _ _ _ _ _ _ (by k_asm) R U c
end
end
section
set_option genInjectivity false in
set_option genSizeOf false in
structure Nd where
 p : List Nat
 nm : Nat
 t : Addr
 l : Addr
 a : Addr
 tm : Tok
 tv : Tok
 tn : Tok
noncomputable def kidsOf (Ns : List Nd) (p : List Nat) : List Nd := Ns.filter fun e => decide (e.p ≠ [] ∧ e.p.dropLast = p)
noncomputable abbrev tagOf (p : List Nat) : Str := if p = [] then "bush" else "joint"
noncomputable abbrev refsOf (Ns : List Nd) : List Value := Ns.map fun k => Value.ref k.t
structure BushAt (w : World) (led st : List (Addr × Obj)) (Ns : List Nd) : Prop where
 sub : ∀ q ∈ st, q ∈ led
 node : ∀ e ∈ Ns, NodeAt w st e.t e.l e.a (tagOf e.p)
 kids : ∀ e ∈ Ns, ∃ n, (e.l, listOf (refsOf (kidsOf Ns e.p)).toArray n) ∈ led
 attr : ∀ e ∈ Ns, e.p ≠ [] → ∃ oa, (e.a, oa) ∈ st ∧ (e.a == sysModules) = false ∧ oa.IsDictOf (PySem.strKind PySem.Challenge.rw_wy0029_01.row.prog w) [("mark", .int 7 e.tm), ("value", .int (e.p.getLast?.getD 0 : Nat) e.tv), ("name", .int e.nm e.tn)]
 apart : ∀ e ∈ Ns, ∀ q ∈ st, q.1 ≠ e.l
 inj : ∀ e ∈ Ns, ∀ e' ∈ Ns, e.l = e'.l → e.p = e'.p
 n104 : (∀ e ∈ Ns, @Ne Nat e.l 104) ∧ ∀ q ∈ st, @Ne Nat q.1 104
 closed : ∀ e ∈ Ns, e.p ≠ [] → ∃ e' ∈ Ns, e'.p = e.p.dropLast
 nodup : (Ns.map (·.p)).Nodup
theorem kidsOf_append (Ns : List Nd) (e : Nd) (p : List Nat) : kidsOf (Ns ++ [e]) p = kidsOf Ns p ++ (if e.p ≠ [] ∧ e.p.dropLast = p then [e] else []) := by
 unfold kidsOf
 rw [List.filter_append]
 congr 1
 by_cases h : e.p ≠ [] ∧ e.p.dropLast = p
 · rw [if_pos h, List.filter_cons, if_pos (decide_eq_true h)]; rfl
 · rw [if_neg h, List.filter_cons, if_neg (by simpa using h)]; rfl
theorem nd_eq {Ns : List Nd} (h : (Ns.map (·.p)).Nodup) {e e' : Nd} (he : e ∈ Ns) (he' : e' ∈ Ns) (q : e.p = e'.p) : e = e' := by
 induction Ns with
 | nil => cases he
 | cons a r ih =>
   rw [List.map_cons, List.nodup_cons] at h
   rcases List.mem_cons.mp he with rfl | h1 <;> rcases List.mem_cons.mp he' with rfl | h2
   · rfl
   · exact absurd (List.mem_map.mpr ⟨e', h2, q.symm⟩) h.1
   · exact absurd (List.mem_map.mpr ⟨e, h1, q⟩) h.1
   · exact ih h.2 h1 h2
theorem BushAt.add {w : World} {led led' st own : List (Addr × Obj)} {Ns : List Nd} (H : BushAt w led st Ns) {e₀ e₁ : Nd} {v n₀ : Nat} {oa : Obj} (h0 : e₀ ∈ Ns) (hp : e₁.p = e₀.p ++ [v]) (hnew : e₁.p ∉ Ns.map (·.p))
   (hl0 : (e₀.l, listOf (refsOf (kidsOf Ns e₀.p) ++ [Value.ref e₁.t]).toArray n₀) ∈ led') (hl1 : (e₁.l, listOf #[] 0) ∈ led') (hown : ∀ q ∈ own, q ∈ led') (hkeep : ∀ q ∈ led, q.1 ≠ e₀.l → @Ne Nat q.1 104 → q ∈ led')
   (hN : NodeAt w (own ++ st) e₁.t e₁.l e₁.a "joint") (ha : (e₁.a, oa) ∈ own) (hs : (e₁.a == sysModules) = false) (hd : oa.IsDictOf (PySem.strKind PySem.Challenge.rw_wy0029_01.row.prog w) [("mark", .int 7 e₁.tm), ("value", .int v e₁.tv), ("name", .int e₁.nm e₁.tn)])
   (hfl : ∀ q ∈ led, q.1 ≠ e₁.l) (hfo : ∀ q ∈ own, q.1 ≠ e₁.l ∧ (∀ e ∈ Ns, q.1 ≠ e.l) ∧ @Ne Nat q.1 104) (h4 : @Ne Nat e₁.l 104) : BushAt w led' (own ++ st) (Ns ++ [e₁]) := by
 have hne : e₁.p ≠ [] := by rw [hp]; simp
 have hdl : e₁.p.dropLast = e₀.p := by rw [hp]; simp
 have keepst : ∀ q ∈ st, q ∈ led' := fun q hq => hkeep q (H.sub q hq) (H.apart e₀ h0 q hq) (H.n104.2 q hq)
 refine ⟨fun q hq => (List.mem_append.mp hq).elim (hown q) (keepst q), fun e he => ?_, fun e he => ?_, fun e he hep => ?_, fun e he q hq => ?_, fun e he e' he' q => ?_, ⟨fun e he => ?_, fun q hq => ?_⟩, fun e he hep => ?_, ?_⟩
 · rcases List.mem_append.mp he with he | he
   · exact (H.node e he).more fun q hq => List.mem_append_right _ hq
   · rw [List.mem_singleton.mp he]
     have : tagOf e₁.p = "joint" := if_neg hne
     rw [this]; exact hN
 · rcases List.mem_append.mp he with he | he
   · rw [kidsOf_append]
     by_cases q : e.p = e₀.p
     · obtain rfl := nd_eq H.nodup he h0 q
       rw [if_pos ⟨hne, hdl⟩]
       refine ⟨n₀, ?_⟩
       rw [show refsOf (kidsOf Ns e.p ++ [e₁]) = refsOf (kidsOf Ns e.p) ++ [Value.ref e₁.t] from by simp [refsOf]]
       exact hl0
     · rw [if_neg (fun h => q (h.2.symm.trans hdl)), List.append_nil]
       obtain ⟨n, hn⟩ := H.kids e he
       exact ⟨n, hkeep _ hn (fun z => q (H.inj e he e₀ h0 z)) (H.n104.1 e he)⟩
   · rw [List.mem_singleton.mp he]
     have hk : kidsOf (Ns ++ [e₁]) e₁.p = [] := by
       rw [kidsOf_append, if_neg (fun h => by
         have := congrArg List.length (h.2.symm.trans hdl)
         rw [hp] at this; simp at this), List.append_nil]
       unfold kidsOf
       rw [List.filter_eq_nil_iff]
       intro e he hd
       obtain ⟨h1, h2⟩ := of_decide_eq_true hd
       obtain ⟨e', he', q⟩ := H.closed e he h1
       exact hnew (List.mem_map.mpr ⟨e', he', q.trans h2⟩)
     rw [hk]
     exact ⟨0, hl1⟩
 · rcases List.mem_append.mp he with he | he
   · obtain ⟨oa, h1, r⟩ := H.attr e he hep
     exact ⟨oa, List.mem_append_right _ h1, r⟩
   · obtain rfl := List.mem_singleton.mp he
     refine ⟨oa, List.mem_append_left _ ha, hs, ?_⟩
     rw [show (e.p.getLast?.getD 0 : Nat) = v from by rw [hp]; simp]
     exact hd
 · rcases List.mem_append.mp he with he | he <;> rcases List.mem_append.mp hq with hq | hq
   · exact (hfo q hq).2.1 e he
   · exact H.apart e he q hq
   · rw [List.mem_singleton.mp he]; exact (hfo q hq).1
   · rw [List.mem_singleton.mp he]; exact hfl q (H.sub q hq)
 · rcases List.mem_append.mp he with k1 | k1 <;> rcases List.mem_append.mp he' with k2 | k2
   · exact H.inj e k1 e' k2 q
   · rw [List.mem_singleton.mp k2] at q
     obtain ⟨n, hn⟩ := H.kids e k1
     exact absurd q (hfl _ hn)
   · rw [List.mem_singleton.mp k1] at q
     obtain ⟨n, hn⟩ := H.kids e' k2
     exact absurd q.symm (hfl _ hn)
   · rw [List.mem_singleton.mp k1, List.mem_singleton.mp k2]
 · rcases List.mem_append.mp he with he | he
   · exact H.n104.1 e he
   · rw [List.mem_singleton.mp he]; exact h4
 · rcases List.mem_append.mp hq with hq | hq
   · exact (hfo q hq).2.2
   · exact H.n104.2 q hq
 · rcases List.mem_append.mp he with he | he
   · obtain ⟨e', he', q⟩ := H.closed e he hep
     exact ⟨e', List.mem_append_left _ he', q⟩
   · rw [List.mem_singleton.mp he]
     exact ⟨e₀, List.mem_append_left _ h0, hdl.symm⟩
 · rw [List.map_append, List.nodup_append]
   refine ⟨H.nodup, by simp, fun a ha b hb => ?_⟩
   rw [List.map_cons, List.map_nil, List.mem_singleton] at hb
   rintro rfl
   exact hnew (hb ▸ ha)
theorem BushAt.led {w : World} {led led' st : List (Addr × Obj)} {Ns : List Nd} (H : BushAt w led st Ns) (h : ∀ q ∈ led, (q ∈ st ∨ ∃ e ∈ Ns, q.1 = e.l) → q ∈ led') : BushAt w led' st Ns :=
 ⟨fun q hq => h q (H.sub q hq) (.inl hq), H.node, fun e he => let ⟨n, hn⟩ := H.kids e he; ⟨n, h _ hn (.inr ⟨e, he, rfl⟩)⟩, H.attr, H.apart, H.inj, H.n104, H.closed, H.nodup⟩
theorem BushAt.still {w : World} {led st own : List (Addr × Obj)} {Ns : List Nd} (H : BushAt w led st Ns) (hsub : ∀ q ∈ own, q ∈ led) (h : ∀ q ∈ own, (∀ e ∈ Ns, q.1 ≠ e.l) ∧ @Ne Nat q.1 104) : BushAt w led (own ++ st) Ns :=
 ⟨fun q hq => (List.mem_append.mp hq).elim (hsub q) (H.sub q), fun e he => (H.node e he).more fun q hq => List.mem_append_right _ hq, H.kids,
   fun e he hp => let ⟨oa, h1, r⟩ := H.attr e he hp; ⟨oa, List.mem_append_right _ h1, r⟩, fun e he q hq => (List.mem_append.mp hq).elim (fun hq => (h q hq).1 e he) (H.apart e he q),
   H.inj, ⟨H.n104.1, fun q hq => (List.mem_append.mp hq).elim (fun hq => (h q hq).2) (H.n104.2 q)⟩, H.closed, H.nodup⟩
noncomputable def grow1 (S : List (List Nat × Nat)) (p : List Nat) (nm : Nat) : List (List Nat × Nat) := if p ∈ S.map Prod.fst then S else S ++ [(p, nm)]
noncomputable def growK (S : List (List Nat × Nat)) (pt : List Nat) (nm k : Nat) : List (List Nat × Nat) := (List.range k).foldl (fun S d => grow1 S (pt.take (d + 1)) nm) S
noncomputable def ptOf (b : Array UInt8) (i : Nat) : List Nat := [(b.getD (3 * i) 0).toNat, (b.getD (3 * i + 1) 0).toNat, (b.getD (3 * i + 2) 0).toNat]
noncomputable def growN (b : Array UInt8) (n : Nat) : List (List Nat × Nat) := (List.range n).foldl (fun S i => growK S (ptOf b i) i 3) []
theorem growK_succ (S : List (List Nat × Nat)) (pt : List Nat) (nm k : Nat) : growK S pt nm (k + 1) = grow1 (growK S pt nm k) (pt.take (k + 1)) nm := by
 unfold growK
 rw [List.range_succ, List.foldl_append]; rfl
theorem growN_succ (b : Array UInt8) (n : Nat) : growN b (n + 1) = growK (growN b n) (ptOf b n) n 3 := by
 unfold growN
 rw [List.range_succ, List.foldl_append]; rfl
noncomputable abbrev tellOf (Ns : List Nd) : List (List Nat × Nat) := Ns.map fun e => (e.p, e.nm)
end
section
section
variable {prog : Program} {w : World} {A₀ A : Around} {s : Shared} {base h₀ : Heap} {L : Addr} {m : Str → Option Value} {news : List (Addr × Obj)} {K : Frag} {p : Program} {loose : List Str} {mean : ExcName → Option Value} {mg mb : Str → Option Value}
   {R : Result → Shared → Prop} {name qual : Str} {params : Arguments} {body : List Stmt} {scope : Scope} {dV kV doc pm cdv ct oc : Value} {an od : Option Addr} {osl : Array (Option Value)} {f : Addr} {args : Args} {binds : List (Str × Value)} {env : Env}
theorem zdefS0 (B : Below A₀ base [] h₀) (F : Fr h₀ L s.heap m) (X₀ : K.In h₀) (N : News h₀ L s.heap news) (T : Top p loose mean mg mb h₀) (hA : A.frames = some [env]) (hf : env.frame = some L) (hke : env.scope.kind = .function)
   (ho : K.lookup f = some ⟨oc, od, .func (fnOf name qual params body scope dV kV doc pm an cdv ct), osl⟩) (hcd : codeIn K cdv qual = true) (hroom : A.depth < recursionLimit)
   (hbind : BindsTo s (fnOf name qual params body scope dV kV doc pm an cdv ct) args binds) (hloc : ∀ y ∈ binds, scope.names.lookup y.1 = some .local)
   (h : ∀ g L' h₁, Fr h₀ L g m → Fr g L' h₁ (fun y => binds.reverse.lookup y) → News g L' h₁ news → Below A base [env] g → K.In g → Top p loose mean mg mb g → KtsDicts ([env].filterMap (·.frame)) g → h₀.StaysIn g → g.get? L ≠ none →
     wpAny (model prog w) (A.deeper (envOf qual scope L' f cdv)) (execs body (envOf qual scope L' f cdv))
       (fun fl s' => LeaveS0 ([env].filterMap (·.frame)) h₀ L m g R (match fl with | .ret v => v | _ => .none) s')
       (fun e s' => wpAny (model prog w) (A.deeper (envOf qual scope L' f cdv)) (leaving (envOf qual scope L' f cdv) e) (fun _ s'' => R (.error e) s'') (fun e' s'' => R (.error e') s'') s')
       { s with heap := h₁, toks := s.toks + binds.length })
   (hco : scope.isCoroutine = false) (hgen : scope.isGenerator = false) (hk : scope.kind = .function)
   (hcell : ∀ x ∈ scope.names, x.2 ≠ .cell) : codeAny (model prog w) A (.call (.ref f) args) R s := by
 refine x0a4 (groundX (R := R) B F N hA hf hke) ?_; rintro FG BG st _
 have X := X₀.keeps F.keep
 have fs : [env].filterMap (·.frame) = [L] := by simp [hf]
 refine x3a4 (id FG.ns) ?_; rintro oL es ep hL hLd hLk hLf
 refine codeAny_call_def (fd := fnOf name qual params body scope dV kV doc pm an cdv ct) (body := body) (binds := binds) hroom (X _ _ ho) rfl (T.nolimit.keeps F.keep) (codeRec_of X hcd) rfl hbind hcell hloc (fun h₁ hns hk₁ => ?_) hco hgen hk
 refine wpAny_mono (h _ s.heap.objs.size h₁ FG ⟨hns, fun b o e => hk₁ b o (of_hideAll _ e), Nat.le_of_eq (hideAll_size _ _)⟩
   (fun p hp => ⟨hk₁ _ _ (N p hp).1, Nat.ne_of_lt (Heap.lt_size (N p hp).1), hideAll_none _ (List.mem_map_of_mem hp)⟩) BG (X₀.keeps st) (T.keeps st) (fun b hb => by
     rw [fs] at hb
     rw [List.mem_singleton.mp hb]
     exact ⟨oL, es, ep, hL, hLd⟩) st (by rw [hL]; simp)) (fun fl s' hl => ?_) fun _ _ y => y
 refine x4a4 hl ?_; clear hl; rintro g' L' m' news' T' F' N' k
 have nL : h₀.get? L = none := kts_self F
 have off : ∀ b o, h₀.get? b = some o → b ∉ [env].filterMap (·.frame) := fun b o e hm => by
   rw [fs] at hm
   rw [List.mem_singleton.mp hm, nL] at e
   cases e
 obtain ⟨sl, hs⟩ := T'.up hL
 refine k ⟨⟨_, es, ep, F'.keep _ _ hs, hLd, hLk, hLf⟩, fun b o e => F'.keep b o (T'.other b o (st b o e) (off b o e)), F.above⟩ fun q hq => ⟨(N' q hq).1, fun z => ?_, ?_⟩
 · have := (N' q hq).2.2
   rw [z, hs] at this; cases this
 · cases e : h₀.get? q.1 with
   | none => rfl
   | some o =>
     have := (N' q hq).2.2
     rw [T'.other _ o (st _ _ e) (off _ _ e)] at this
     cases this
structure Turns (A₀ : Around) (base h₀ : Heap) (env : Env) (g₀ g : Heap) : Prop where
 turn : KtsTurn ([env].filterMap (·.frame)) g₀ g
 below : Below A₀ base [env] g
 dicts : KtsDicts ([env].filterMap (·.frame)) g
 stays : h₀.StaysIn g
end
noncomputable def TabOk (ps : Array Value) (st : List (Addr × Obj)) : Prop := ps = #[] ∨ ∃ c1 c2, ps = tab2 c1 c2 ∧ CodeObj2 c2 st
theorem news_sw {h₀ h : Heap} {L : Addr} {a b : Addr × Obj} {r : List (Addr × Obj)} (N : News h₀ L h (a :: b :: r)) : News h₀ L h (b :: a :: r) := sbn N (by repeat' (first | exact sb0 | exact sbs | refine sbc ?_ ?_ | refine sba ?_ ?_ | refine sbt ?_ | refine sbl sbs | refine sbr ?_ | exact .head _ | refine .tail _ ?_ | refine List.mem_append_right _ ?_))
theorem news_pack2 {h₀ h : Heap} {L : Addr} {a b : Addr × Obj} {own r : List (Addr × Obj)} (N : News h₀ L h (a :: b :: (own ++ r))) : ∃ Z, News h₀ L h (a :: b :: (Z ++ r)) ∧ Z = own := ⟨own, N, rfl⟩
section
variable {w : World} {A : Around} {h₀ : Heap} {L : Addr} {m : Str → Option Value} {rest : List (Addr × Obj)} {s : Shared} {E : Value → Shared → Prop} {Q : Value → Shared → Prop}
theorem thing_any {tag : Str} {tt : Tok} {da : Addr} {ps : Array Value} {st : List (Addr × Obj)} (C : Cx w 330 A L h₀) (H : Held2 A rest) (F : Fr h₀ L s.heap m) (N : News h₀ L s.heap ((104, tabObj ps) :: rest)) (hr : ∀ p ∈ rest, p.1 ≠ 104) (hps : TabOk ps st)
   (h : ∀ h' tk (t l B : Addr) (own : List (Addr × Obj)) (c1 c2 : Addr), Fr h₀ L h' m → News h₀ L h' ((l, listOf #[] 0) :: (104, tabObj (tab2 c1 c2)) :: (own ++ rest)) → NodeAt w (own ++ st) t l da tag → CodeObj2 c2 (own ++ st) → AllLt B rest → @LE.le Nat _ B l → (∀ p ∈ own, @LE.le Nat _ B p.1 ∧ p.1 ≠ l) → @LT.lt Nat _ 104 B → Q (.ref t) { s with heap := h', toks := tk }) :
   wpAny (model PySem.Challenge.rw_wy0029_01.row.prog w) A (call (.ref 109) [.str tag tt, .ref da]) Q E s := by
 rcases hps with rfl | ⟨c1, c2, rfl, hc⟩
 · exact thing_first C H F N hr h
 · exact thing_next C H F N hr hc h
end
theorem stays_turn {h₀ h g g' : Heap} {L : Addr} {m : Str → Option Value} {env : Env} (F : Fr h₀ L h m) (hf : env.frame = some L) (st : h₀.StaysIn g) (T : KtsTurn ([env].filterMap (·.frame)) g g') : h₀.StaysIn g' := fun b o e =>
 T.other _ _ (st _ _ e) fun hm => by
   have fs : [env].filterMap (·.frame) = [L] := by simp [hf]
   rw [fs] at hm
   rw [List.mem_singleton.mp hm, kts_self F] at e
   cases e
end
section
noncomputable abbrev tupO (vs : Array Value) (z : Nat) : Obj := { cls := .type "tuple", data := .seq vs z }
noncomputable def HungIs (st : List (Addr × Obj)) (Es : List Nd) (hv : List Value) : Prop :=
 hv.length = Es.length ∧ ∀ (i : Nat) (e : Nd), Es[i]? = some e → ∃ T tt z, hv[i]? = some (.ref T) ∧ (T, tupO #[Value.str "joint" tt, .ref e.a] z) ∈ st
theorem HungIs.more {st st' : List (Addr × Obj)} {Es : List Nd} {hv : List Value} (x : HungIs st Es hv) (h : ∀ q ∈ st, q ∈ st') : HungIs st' Es hv :=
 ⟨x.1, fun i e he => x3a2 (x.2 i e he) fun T tt z h1 h2 => ⟨T, tt, z, h1, h _ h2⟩⟩
theorem HungIs.snoc {st : List (Addr × Obj)} {Es : List Nd} {hv : List Value} (x : HungIs st Es hv) {e : Nd} {T : Addr} {tt : Tok} {z : Nat} (h : (T, tupO #[Value.str "joint" tt, .ref e.a] z) ∈ st) : HungIs st (Es ++ [e]) (hv ++ [Value.ref T]) := by
 refine ⟨by simp [x.1], fun i e' he => ?_⟩
 rcases Nat.lt_or_ge i Es.length with q | q
 · rw [List.getElem?_append_left q] at he
   refine x3a2 (x.2 i e' he) ?_; rintro T' t' z' h1 h2
   exact ⟨T', t', z', by rw [List.getElem?_append_left (by rw [x.1]; exact q)]; exact h1, h2⟩
 · rw [List.getElem?_append_right q] at he
   have : i - Es.length = 0 := by
     have := (List.getElem?_eq_some_iff.mp he).1
     simpa using this
   rw [this] at he
   cases he
   exact ⟨T, tt, z, by rw [List.getElem?_append_right (by rw [x.1]; exact q), x.1, this]; rfl, h⟩
noncomputable abbrev wordMsg : Str := "sequence.index(x): x not in sequence"
structure BI (w : World) (wv : List Value) (rt tb ws hs : Addr) (otb : Obj) (t5 t6 : Tok) (K : List (Addr × Obj)) (I : List Addr) (tk : Nat) (led st : List (Addr × Obj)) (Ns : List Nd) (S : List (List Nat × Nat)) : Prop where
 bush : BushAt w led st Ns
 tell : tellOf Ns = ([], 0) :: S
 root : ∃ e₀ es, Ns = e₀ :: es ∧ e₀.t = rt
 tab : ∃ c1 c2, (104, tabObj (tab2 c1 c2)) ∈ led ∧ CodeObj2 c2 st
 words : ∃ us n, (ws, listOf (wv ++ us).toArray n) ∈ led ∧ us.length = S.length ∧ ∀ v ∈ us, ∃ t, v = .str wordMsg t
 hung : ∃ hv n, (hs, listOf hv.toArray n) ∈ led ∧ HungIs st Ns.tail hv
 tabl : (tb, otb) ∈ st ∧ (tb == sysModules) = false ∧ otb.IsDictOf (PySem.strKind PySem.Challenge.rw_wy0029_01.row.prog w) [("mark", .int 7 t5), ("value", .int 9 t6)]
 mark : t5 ≠ 0 ∧ ∀ e ∈ Ns, e.p ≠ [] → e.tm = t5
 val : ∀ e ∈ Ns, e.p ≠ [] → e.tv ≠ 0 ∧ e.tv < tk ∧ (e.p.getLast?.getD 0) < 256
 keep : ∀ q ∈ K, q ∈ led
 kap : ∀ q ∈ K, q.1 ≠ ws ∧ q.1 ≠ hs ∧ @Ne Nat q.1 104 ∧ ∀ e ∈ Ns, q.1 ≠ e.l
 iap : ∀ a ∈ I, (∃ ob, (a, ob) ∈ K) ∧ ∀ q ∈ st, q.1 ≠ a
 stap : ∀ q ∈ st, q.1 ≠ ws ∧ q.1 ≠ hs
 lap : ∀ e ∈ Ns, e.l ≠ ws ∧ e.l ≠ hs
 w4 : @Ne Nat ws 104 ∧ @Ne Nat hs 104 ∧ ws ≠ hs
section
variable {w : World} {wv : List Value} {rt tb ws hs : Addr} {otb : Obj} {t5 t6 : Tok} {K : List (Addr × Obj)} {I : List Addr} {tk : Nat} {led led' st : List (Addr × Obj)} {Ns : List Nd} {S : List (List Nat × Nat)}
theorem BI.later (H : BI w wv rt tb ws hs otb t5 t6 K I tk led st Ns S) {tk' : Nat} (h : tk ≤ tk') : BI w wv rt tb ws hs otb t5 t6 K I tk' led st Ns S :=
 { H with val := fun e he hp => let ⟨a, b, c⟩ := H.val e he hp; ⟨a, Nat.lt_of_lt_of_le b h, c⟩ }
theorem BI.toLed (H : BI w wv rt tb ws hs otb t5 t6 K I tk led st Ns S) {K' : List (Addr × Obj)} {I' : List Addr} (h : ∀ q ∈ led, (q ∈ st ∨ (∃ e ∈ Ns, q.1 = e.l) ∨ @Eq Nat q.1 104 ∨ q.1 = ws ∨ q.1 = hs) → q ∈ led') (hK : ∀ q ∈ K', q ∈ led')
   (hk : ∀ q ∈ K', q.1 ≠ ws ∧ q.1 ≠ hs ∧ @Ne Nat q.1 104 ∧ ∀ e ∈ Ns, q.1 ≠ e.l) (hi : ∀ a ∈ I', (∃ ob, (a, ob) ∈ K') ∧ ∀ q ∈ st, q.1 ≠ a) : BI w wv rt tb ws hs otb t5 t6 K' I' tk led' st Ns S :=
 { H with
   bush := H.bush.led fun q hq h' => h q hq (h'.elim .inl fun z => .inr (.inl z))
   tab := x2a2 H.tab fun c1 c2 a b => ⟨c1, c2, h _ a (.inr (.inr (.inl rfl))), b⟩
   words := x2a3 H.words fun us n a b b' => ⟨us, n, h _ a (.inr (.inr (.inr (.inl rfl)))), b, b'⟩
   hung := x2a2 H.hung fun us n a b => ⟨us, n, h _ a (.inr (.inr (.inr (.inr rfl)))), b⟩
   keep := hK
   kap := hk
   iap := hi }
theorem BI.mem (H : BI w wv rt tb ws hs otb t5 t6 K I tk led st Ns S) : (∃ o, (ws, o) ∈ led) ∧ (∃ o, (hs, o) ∈ led) ∧ (∃ o, (104, o) ∈ led) ∧ ∀ e ∈ Ns, ∃ o, (e.l, o) ∈ led :=
 ⟨H.words.elim fun _ h => h.elim fun _ h => ⟨_, h.1⟩, H.hung.elim fun _ h => h.elim fun _ h => ⟨_, h.1⟩, H.tab.elim fun _ h => h.elim fun _ h => ⟨_, h.1⟩, fun e he => (H.bush.kids e he).elim fun _ h => ⟨_, h⟩⟩
theorem BI.enter (H : BI w wv rt tb ws hs otb t5 t6 K I tk led st Ns S) {o : List (Addr × Obj)} {ow : List Addr} (hown : ∀ p ∈ o, p.1 ∈ ow) (hoff : ∀ p ∈ led, p.1 ∉ ow) (hlive : ∀ a ∈ ow, ∃ ob, (a, ob) ∈ o) :
   BI w wv rt tb ws hs otb t5 t6 (o ++ K) (ow ++ I) tk (o ++ led) st Ns S := by
 refine x0a4 (H.mem) ?_; rintro ⟨_, m1⟩ ⟨_, m2⟩ ⟨_, m3⟩ m4
 refine H.toLed (fun q hq _ => List.mem_append_right _ hq) (fun q hq => (List.mem_append.mp hq).elim (List.mem_append_left _) fun h => List.mem_append_right _ (H.keep q h)) (fun q hq => ?_) fun a ha => ?_
 · rcases List.mem_append.mp hq with hq | hq
   · have := hown q hq
     refine ⟨fun e => hoff _ m1 (e ▸ this), fun e => hoff _ m2 (e ▸ this), fun e => hoff _ m3 ?_, fun e he z => ?_⟩
     · show (104 : Nat) ∈ ow
       rw [← e]; exact this
     · obtain ⟨_, m⟩ := m4 e he
       exact hoff _ m (z ▸ this)
   · exact H.kap q hq
 · rcases List.mem_append.mp ha with ha | ha
   · obtain ⟨ob, h⟩ := hlive a ha
     exact ⟨⟨ob, List.mem_append_left _ h⟩, fun q hq e => hoff q (H.bush.sub q hq) (e ▸ ha)⟩
   · obtain ⟨⟨ob, h⟩, k⟩ := H.iap a ha
     exact ⟨⟨ob, List.mem_append_right _ h⟩, k⟩
theorem BI.leave {o : List (Addr × Obj)} {ow : List Addr} (H : BI w wv rt tb ws hs otb t5 t6 (o ++ K) (ow ++ I) tk led st Ns S) (hK : ∀ q ∈ K, q.1 ∉ ow) (hI : ∀ a ∈ I, ∃ ob, (a, ob) ∈ K) :
   BI w wv rt tb ws hs otb t5 t6 K I tk (led.filter fun q => decide (q.1 ∉ ow)) st Ns S := by
 refine H.toLed (fun q hq h => List.mem_filter.mpr ⟨hq, decide_eq_true fun hm => ?_⟩) (fun q hq => List.mem_filter.mpr ⟨H.keep q (List.mem_append_right _ hq), decide_eq_true (hK q hq)⟩) (fun q hq => H.kap q (List.mem_append_right _ hq)) fun a ha => ⟨hI a ha, (H.iap a (List.mem_append_right _ ha)).2⟩
 obtain ⟨⟨ob, h1⟩, h2⟩ := H.iap q.1 (List.mem_append_left _ hm)
 refine x0a4 (H.kap _ h1) ?_; rintro k1 k2 k3 k4
 rcases h with h | ⟨e, he, h⟩ | h | h | h
 · exact h2 q h rfl
 · exact k4 e he h
 · exact k3 h
 · exact k1 h
 · exact k2 h
theorem BI.some (H : BI w wv rt tb ws hs otb t5 t6 K I tk led st Ns S) {e : Nd} (he : e ∈ Ns) : (e.p, e.nm) ∈ ([], 0) :: S := by
 rw [← H.tell]; exact List.mem_map.mpr ⟨e, he, rfl⟩
theorem BI.hang (H : BI w wv rt tb ws hs otb t5 t6 K I tk led st Ns S) {e₀ e₁ : Nd} {v n₀ n₁ n₂ tk' : Nat} {oa : Obj} {own : List (Addr × Obj)} {B T d1 d2 : Addr} {us hv : List Value} {tw tt : Tok} {z : Nat} (h0 : e₀ ∈ Ns) (hp : e₁.p = e₀.p ++ [v]) (hnew : e₁.p ∉ Ns.map (·.p))
   (hl0 : (e₀.l, listOf (refsOf (kidsOf Ns e₀.p) ++ [Value.ref e₁.t]).toArray n₀) ∈ led') (hl1 : (e₁.l, listOf #[] 0) ∈ led') (h104 : (104, tabObj (tab2 d1 d2)) ∈ led') (hown : ∀ q ∈ own, q ∈ led') (hT : (T, tupO #[Value.str "joint" tt, .ref e₁.a] z) ∈ led')
   (hw : (ws, listOf (wv ++ us ++ [Value.str wordMsg tw]).toArray n₁) ∈ led') (hus : us.length = S.length ∧ ∀ v ∈ us, ∃ t, v = .str wordMsg t) (hh : (hs, listOf (hv ++ [Value.ref T]).toArray n₂) ∈ led') (hhv : HungIs st Ns.tail hv)
   (hkeep : ∀ q ∈ led, q.1 ≠ e₀.l → @Ne Nat q.1 104 → q.1 ≠ ws → q.1 ≠ hs → q ∈ led')
   (hN : NodeAt w (own ++ st) e₁.t e₁.l e₁.a "joint") (ha : (e₁.a, oa) ∈ own) (hs' : (e₁.a == sysModules) = false) (hd : oa.IsDictOf (PySem.strKind PySem.Challenge.rw_wy0029_01.row.prog w) [("mark", .int 7 e₁.tm), ("value", .int v e₁.tv), ("name", .int e₁.nm e₁.tn)])
   (hc : CodeObj2 d2 (own ++ st)) (hlt : ∀ q ∈ led, @LT.lt Nat _ q.1 B) (b1 : @LE.le Nat _ B e₁.l) (b2 : ∀ p ∈ own, @LE.le Nat _ B p.1 ∧ p.1 ≠ e₁.l) (b3 : @LT.lt Nat _ 104 B) (bT : @LE.le Nat _ B T ∧ T ≠ e₁.l)
   (htm : e₁.tm = t5) (htv : e₁.tv ≠ 0 ∧ e₁.tv < tk' ∧ v < 256) (htk : tk ≤ tk') :
   BI w wv rt tb ws hs otb t5 t6 K I tk' led' ((T, tupO #[Value.str "joint" tt, .ref e₁.a] z) :: (own ++ st)) (Ns ++ [e₁]) (S ++ [(e₁.p, e₁.nm)]) := by
 have hne : e₁.p ≠ [] := by rw [hp]; simp
 refine x2a2 (H.words) ?_; rintro us' nw hw' _
 refine x2a2 (H.hung) ?_; rintro hv' nh hh' _
 have lw : @LT.lt Nat _ ws B := hlt _ hw'
 have lh : @LT.lt Nat _ hs B := hlt _ hh'
 have ll : ∀ e ∈ Ns, @LT.lt Nat _ e.l B := fun e he => let ⟨n, hn⟩ := H.bush.kids e he; hlt _ hn
 have up : ∀ q ∈ st, q ∈ (T, tupO #[Value.str "joint" tt, .ref e₁.a] z) :: (own ++ st) := fun q hq => .tail _ (List.mem_append_right _ hq)
 have hb : BushAt w (led.filter fun q => decide (q.1 ≠ ws ∧ q.1 ≠ hs)) st Ns := H.bush.led fun q hq h => List.mem_filter.mpr ⟨hq, decide_eq_true (by
   rcases h with h | ⟨e, he, h⟩
   · exact H.stap q h
   · rw [h]; exact H.lap e he)⟩
 have hb2 : BushAt w led' (own ++ st) (Ns ++ [e₁]) := hb.add (v := v) h0 hp hnew hl0 hl1 hown (fun q hq h1 h2 => by
     obtain ⟨hq, hd⟩ := List.mem_filter.mp hq
     obtain ⟨h3, h4⟩ := of_decide_eq_true hd
     exact hkeep q hq h1 h2 h3 h4) hN ha hs' hd (fun q hq => Nat.ne_of_lt (Nat.lt_of_lt_of_le (hlt q (List.mem_filter.mp hq).1) b1))
   (fun q hq => ⟨(b2 q hq).2, fun e he => Nat.ne_of_gt (Nat.lt_of_lt_of_le (ll e he) (b2 q hq).1), Nat.ne_of_gt (Nat.lt_of_lt_of_le b3 (b2 q hq).1)⟩) (Nat.ne_of_gt (Nat.lt_of_lt_of_le b3 b1))
 have hb3 : BushAt w led' ((T, tupO #[Value.str "joint" tt, .ref e₁.a] z) :: (own ++ st)) (Ns ++ [e₁]) := by
   refine hb2.still (own := [(T, tupO #[Value.str "joint" tt, .ref e₁.a] z)]) (fun q hq => by rw [List.mem_singleton.mp hq]; exact hT) fun q hq => ?_
   rw [List.mem_singleton.mp hq]
   refine ⟨fun e he => ?_, Nat.ne_of_gt (Nat.lt_of_lt_of_le b3 bT.1)⟩
   rcases List.mem_append.mp he with he | he
   · exact Nat.ne_of_gt (Nat.lt_of_lt_of_le (ll e he) bT.1)
   · rw [List.mem_singleton.mp he]; exact bT.2
 have big : ∀ q ∈ (T, tupO #[Value.str "joint" tt, .ref e₁.a] z) :: (own ++ st), q ∈ st ∨ @LE.le Nat _ B q.1 := fun q hq => by
   rcases List.mem_cons.mp hq with rfl | hq
   · exact .inr bT.1
   · rcases List.mem_append.mp hq with hq | hq
     · exact .inr (b2 q hq).1
     · exact .inl hq
 refine x2a2 (H.root) ?_; rintro r₀ rs hr hrt
 refine ⟨hb3, ?_, ⟨r₀, rs ++ [e₁], by rw [hr]; rfl, hrt⟩, ⟨d1, d2, h104, ?_⟩, ⟨us ++ [.str wordMsg tw], n₁, by rw [← List.append_assoc]; exact hw, by simp [hus.1], fun v hv => ?_⟩, ⟨hv ++ [.ref T], n₂, hh, ?_⟩, ⟨up _ H.tabl.1, H.tabl.2⟩, ⟨H.mark.1, fun e he hp => ?_⟩, fun e he hpe => ?_, fun q hq => ?_, fun q hq => ?_, fun a hma => ?_, fun q hq => ?_, fun e he => ?_, H.w4⟩
 · unfold tellOf
   rw [List.map_append, show Ns.map (fun e => (e.p, e.nm)) = ([], 0) :: S from H.tell]; rfl
 · refine x3a2 hc ?_; clear hc; rintro oc vs t h1 r
   exact ⟨oc, vs, t, .tail _ h1, r⟩
 · rcases List.mem_append.mp hv with h | h
   · exact hus.2 v h
   · exact ⟨tw, List.mem_singleton.mp h⟩
 · rw [hr] at hhv ⊢
   exact (hhv.more up).snoc (.head _)
 · rcases List.mem_append.mp he with he | he
   · exact H.mark.2 e he hp
   · rw [List.mem_singleton.mp he]; exact htm
 · rcases List.mem_append.mp he with he | he
   · obtain ⟨a, b, c⟩ := H.val e he hpe
     exact ⟨a, Nat.lt_of_lt_of_le b htk, c⟩
   · rw [List.mem_singleton.mp he, show (e₁.p.getLast?.getD 0 : Nat) = v from by rw [hp]; simp]; exact htv
 · refine x0a4 (H.kap q hq) ?_; rintro k1 k2 k3 k4
   exact hkeep q (H.keep q hq) (k4 e₀ h0) k3 k1 k2
 · refine x0a4 (H.kap q hq) ?_; rintro k1 k2 k3 k4
   refine ⟨k1, k2, k3, fun e he => ?_⟩
   rcases List.mem_append.mp he with he | he
   · exact k4 e he
   · rw [List.mem_singleton.mp he]; exact Nat.ne_of_lt (Nat.lt_of_lt_of_le (hlt q (H.keep q hq)) b1)
 · obtain ⟨⟨ob, hm⟩, k⟩ := H.iap a hma
   refine ⟨⟨ob, hm⟩, fun q hq => ?_⟩
   rcases big q hq with h | h
   · exact k q h
   · exact Nat.ne_of_gt (Nat.lt_of_lt_of_le (hlt _ (H.keep _ hm)) h)
 · rcases big q hq with h | h
   · exact H.stap q h
   · exact ⟨Nat.ne_of_gt (Nat.lt_of_lt_of_le lw h), Nat.ne_of_gt (Nat.lt_of_lt_of_le lh h)⟩
 · rcases List.mem_append.mp he with he | he
   · exact H.lap e he
   · rw [List.mem_singleton.mp he]
     exact ⟨Nat.ne_of_gt (Nat.lt_of_lt_of_le lw b1), Nat.ne_of_gt (Nat.lt_of_lt_of_le lh b1)⟩
end
theorem BI.start {w : World} {Ic : List Addr} {wv : List Value} {rt tb ws hs l2 d B2 c1 c2 : Addr} {otb : Obj} {t5 t6 : Tok} {tk wn : Nat} {led rest own st0 : List (Addr × Obj)} {g h : Heap} {L : Addr} (_ : News g L h led) (P2 : NodeAt w (own ++ st0) rt l2 d "bush") (C2 : CodeObj2 c2 (own ++ st0)) (L2 : ∀ q ∈ rest, @LT.lt Nat _ q.1 B2) (b1 : @LE.le Nat _ B2 l2) (b2 : ∀ p ∈ own, @LE.le Nat _ B2 p.1 ∧ p.1 ≠ l2) (b3 : @LT.lt Nat _ 104 B2)
   (htb : @LT.lt Nat _ l2 tb) (hr : ∀ q ∈ rest, @Ne Nat q.1 104) (hst0 : ∀ q ∈ st0, q ∈ rest) (hst1 : ∀ q ∈ st0, q.1 ≠ ws ∧ q.1 ≠ hs) (hws : (ws, listOf wv.toArray wn) ∈ rest) (hhs : (hs, listOf #[] 0) ∈ rest) (hwh : ws ≠ hs) (hIc : ∀ a ∈ Ic, (∃ ob, (a, ob) ∈ rest.filter fun q => decide (q.1 ≠ ws ∧ q.1 ≠ hs)) ∧ ∀ q ∈ st0, q.1 ≠ a)
   (m1 : (l2, listOf #[] 0) ∈ led) (m2 : (104, tabObj (tab2 c1 c2)) ∈ led) (m3 : ∀ q ∈ own, q ∈ led) (m4 : ∀ q ∈ rest, q ∈ led) (m5 : (tb, otb) ∈ led) (hsm : (tb == sysModules) = false) (hdt : otb.IsDictOf (PySem.strKind PySem.Challenge.rw_wy0029_01.row.prog w) [("mark", .int 7 t5), ("value", .int 9 t6)]) (ht5 : t5 ≠ 0) :
   BI w wv rt tb ws hs otb t5 t6 (rest.filter fun q => decide (q.1 ≠ ws ∧ q.1 ≠ hs)) Ic tk led ((tb, otb) :: (own ++ st0)) [⟨[], 0, rt, l2, d, 0, 0, 0⟩] [] := by
 have lw := L2 _ hws
 have lh := L2 _ hhs
 have big : ∀ q ∈ (tb, otb) :: (own ++ st0), q ∈ st0 ∨ (@LE.le Nat _ B2 q.1 ∧ q.1 ≠ l2) := fun q hq => by
   rcases List.mem_cons.mp hq with rfl | hq
   · exact .inr ⟨Nat.le_trans b1 (Nat.le_of_lt htb), Nat.ne_of_gt htb⟩
   · rcases List.mem_append.mp hq with hq | hq
     · exact .inr (b2 q hq)
     · exact .inl hq
 have kd : kidsOf [(⟨[], 0, rt, l2, d, 0, 0, 0⟩ : Nd)] [] = [] := by simp [kidsOf]
 refine ⟨⟨fun q hq => ?_, fun e he => ?_, fun e he => ?_, fun e he hp => ?_, fun e he q hq => ?_, fun e he e' he' _ => ?_, ⟨fun e he => ?_, fun q hq => ?_⟩, fun e he hp => ?_, by simp⟩, rfl, ⟨_, [], rfl, rfl⟩, ⟨c1, c2, m2, ?_⟩, ⟨[], wn, by rw [List.append_nil]; exact m4 _ hws, rfl, fun _ h => nomatch h⟩, ⟨[], 0, m4 _ hhs, rfl, fun _ _ h => nomatch h⟩, ⟨.head _, hsm, hdt⟩, ⟨ht5, fun e he hp => ?_⟩, fun e he hp => ?_, fun q hq => m4 q (List.mem_filter.mp hq).1, fun q hq => ?_, fun a ha => ⟨(hIc a ha).1, fun q hq => (big q hq).elim ((hIc a ha).2 q) fun h => ?_⟩, fun q hq => ?_, fun e he => ?_, ⟨hr _ hws, hr _ hhs, hwh⟩⟩
 · rcases List.mem_cons.mp hq with rfl | hq
   · exact m5
   · exact (List.mem_append.mp hq).elim (m3 q) fun h => m4 q (hst0 q h)
 · rw [List.mem_singleton.mp he]
   exact P2.more fun q hq => .tail _ hq
 · rw [List.mem_singleton.mp he, kd]
   exact ⟨0, m1⟩
 · rw [List.mem_singleton.mp he] at hp; exact absurd rfl hp
 · rw [List.mem_singleton.mp he]
   rcases big q hq with h | h
   · exact Nat.ne_of_lt (Nat.lt_of_lt_of_le (L2 q (hst0 q h)) b1)
   · exact h.2
 · rw [List.mem_singleton.mp he, List.mem_singleton.mp he']
 · rw [List.mem_singleton.mp he]; exact Nat.ne_of_gt (Nat.lt_of_lt_of_le b3 b1)
 · rcases big q hq with h | h
   · exact hr q (hst0 q h)
   · exact Nat.ne_of_gt (Nat.lt_of_lt_of_le b3 h.1)
 · rw [List.mem_singleton.mp he] at hp; exact absurd rfl hp
 · refine x3a2 C2 ?_; clear C2; rintro oc vs t h1 r
   exact ⟨oc, vs, t, .tail _ h1, r⟩
 · rw [List.mem_singleton.mp he] at hp; exact absurd rfl hp
 · rw [List.mem_singleton.mp he] at hp; exact absurd rfl hp
 · obtain ⟨h1, h2⟩ := List.mem_filter.mp hq
   obtain ⟨h3, h4⟩ := of_decide_eq_true h2
   refine ⟨h3, h4, hr q h1, fun e he => ?_⟩
   rw [List.mem_singleton.mp he]; exact Nat.ne_of_lt (Nat.lt_of_lt_of_le (L2 q h1) b1)
 · obtain ⟨⟨ob, h1⟩, _⟩ := hIc a ha
   exact Nat.ne_of_gt (Nat.lt_of_lt_of_le (L2 (a, ob) (List.mem_filter.mp h1).1) h.1)
 · rcases big q hq with h | h
   · exact hst1 q h
   · exact ⟨Nat.ne_of_gt (Nat.lt_of_lt_of_le lw h.1), Nat.ne_of_gt (Nat.lt_of_lt_of_le lh h.1)⟩
 · rw [List.mem_singleton.mp he]
   exact ⟨Nat.ne_of_gt (Nat.lt_of_lt_of_le lw b1), Nat.ne_of_gt (Nat.lt_of_lt_of_le lh b1)⟩
noncomputable abbrev upd (D : Addr) (ob : Obj) (led : List (Addr × Obj)) : List (Addr × Obj) := (D, ob) :: led.filter fun q => decide (q.1 ≠ D)
theorem upd_keep {D : Addr} {ob : Obj} {led : List (Addr × Obj)} {q : Addr × Obj} (h : q ∈ led) (hD : q.1 ≠ D) : q ∈ upd D ob led := .tail _ (List.mem_filter.mpr ⟨h, decide_eq_true hD⟩)
section
variable {prog : Program} {w : World} {A : Around} {h₀ : Heap} {L : Addr} {m : Str → Option Value} {led : List (Addr × Obj)} {s : Shared} {E : Value → Shared → Prop}
theorem append_led {D : Addr} {vs : List Value} {n : Nat} {x : Value} {Q : Value → Shared → Prop} (F : Fr h₀ L s.heap m) (N : News h₀ L s.heap led) (hm : (D, listOf vs.toArray n) ∈ led) (hsz : vs.length ≤ 1000)
   (h : ∀ h', Fr h₀ L h' m → News h₀ L h' (upd D (listOf (vs ++ [x]).toArray (n + 1)) led) → Q .none { s with heap := h' }) : wpAny (model prog w) A (call (.builtin "list.append") [.ref D, x]) Q E s := by
 have N' : News h₀ L s.heap (upd D (listOf vs.toArray n) led) := fun p hp => by
   rcases List.mem_cons.mp hp with rfl | hp
   · exact N _ hm
   · exact N p (List.mem_filter.mp hp).1
 have e : (vs ++ [x]).toArray = vs.toArray.push x := by simp
 rw [show upd D (listOf (vs ++ [x]).toArray (n + 1)) led = (D, listOf (vs.toArray.push x) (n + 1)) :: led.filter fun q => decide (q.1 ≠ D) from by rw [← e]] at h
 exact append_K (its := vs.toArray) (n := n) F N' (.head fun p hp => of_decide_eq_true (List.mem_filter.mp hp).2) h (by simp; rw [sizeLine_eq]; omega)
end
theorem range3_small (n : Nat) (h : n ≤ 27) : Builtin.Range.small 0 ((3 * n : Nat) : Int) 3 = true :=
 (by decide +kernel : ∀ n : Fin 28, Builtin.Range.small 0 ((3 * n.val : Nat) : Int) 3 = true) ⟨n, by exact Nat.lt_succ_of_le h⟩
theorem range3_size (n : Nat) (h : n ≤ 27) : Builtin.Range.rangeSize 0 ((3 * n : Nat) : Int) 3 = (n : Int) :=
 (by decide +kernel : ∀ n : Fin 28, Builtin.Range.rangeSize 0 ((3 * n.val : Nat) : Int) 3 = (n.val : Int)) ⟨n, by exact Nat.lt_succ_of_le h⟩
theorem picked3 {b : Array UInt8} {np i : Nat} (hb : b.size = 3 * np) (hi : i < np) : KBy.picked b (some ((0 : Int) + i * 3)) (some ((0 : Int) + i * 3 + 3)) = #[b.getD (3 * i) 0, b.getD (3 * i + 1) 0, b.getD (3 * i + 2) 0] := by
 rw [KBc.picked_eq]
 have e1 : (0 : Int) + i * 3 = ((3 * i : Nat) : Int) := by omega
 have e2 : (0 : Int) + i * 3 + 3 = ((3 * i + 3 : Nat) : Int) := by exact Eq.symm (Nat.ToInt.add_congr (id (Eq.symm e1)) rfl)
 rw [e2, e1]
 simp only [Option.elim, clipAt_nat]
 rw [Nat.min_eq_left (by omega), Nat.min_eq_left (by omega)]
 apply Array.ext'
 show _ = [_, _, _]
 apply List.ext_getElem?
 intro k
 rw [List.getElem?_take]
 rcases Nat.lt_or_ge k 3 with h | h
 · rw [if_pos (by first | (rw [Nat.add_sub_cancel_left]; exact h) | omega), List.getElem?_drop]
   rcases two (Nat.le_of_lt_succ h) with rfl | rfl | rfl <;> simp [Array.getD, show 3 * i < b.size by omega, show 3 * i + 1 < b.size by omega, show 3 * i + 2 < b.size by omega]
 · rw [if_neg (by first | (rw [Nat.add_sub_cancel_left]; exact Nat.not_lt.mpr h) | omega), List.getElem?_eq_none (by simpa using h)]
theorem grow1_len (S : List (List Nat × Nat)) (p : List Nat) (nm : Nat) : (grow1 S p nm).length ≤ S.length + 1 := by
 unfold grow1; split <;> simp
theorem growK_len (S : List (List Nat × Nat)) (pt : List Nat) (nm k : Nat) : (growK S pt nm k).length ≤ S.length + k := by
 induction k with
 | zero => exact Nat.le_refl _
 | succ k ih =>
   rw [growK_succ]
   have := grow1_len (growK S pt nm k) (pt.take (k + 1)) nm
   omega
theorem growN_len (b : Array UInt8) (n : Nat) : (growN b n).length ≤ 3 * n := by
 induction n with
 | zero => exact Nat.le_refl _
 | succ n ih =>
   rw [growN_succ]
   have := growK_len (growN b n) (ptOf b n) n 3
   omega
theorem BI.count {w : World} {wv : List Value} {rt tb ws hs : Addr} {otb : Obj} {t5 t6 : Tok} {K : List (Addr × Obj)} {I : List Addr} {tk : Nat} {led st : List (Addr × Obj)} {Ns : List Nd} {S : List (List Nat × Nat)} (H : BI w wv rt tb ws hs otb t5 t6 K I tk led st Ns S) : Ns.length = S.length + 1 := by
 have := congrArg List.length H.tell
 simpa using this
theorem kidsOf_len (Ns : List Nd) (p : List Nat) : (kidsOf Ns p).length ≤ Ns.length := List.length_filter_le _ _
theorem kidsOf_mem {Ns : List Nd} {p : List Nat} {e : Nd} (h : e ∈ kidsOf Ns p) : e ∈ Ns ∧ e.p ≠ [] ∧ e.p.dropLast = p := by
 obtain ⟨h1, h2⟩ := List.mem_filter.mp h
 exact ⟨h1, of_decide_eq_true h2⟩
theorem first_idx (ks : List Int) (x : Int) : (∀ i : Nat, ks[i]? ≠ some x) ∨ ∃ r : Nat, ks[r]? = some x ∧ ∀ i, i < r → ks[i]? ≠ some x := by
 induction ks with
 | nil => exact .inl fun i => by simp
 | cons a l ih =>
   by_cases h : a = x
   · exact .inr ⟨0, by simp [h], fun i hi => absurd hi (Nat.not_lt_zero _)⟩
   · rcases ih with ih | ⟨r, h1, h2⟩
     · refine .inl fun i => ?_
       cases i with
       | zero => simpa using h
       | succ i => simpa using ih i
     · refine .inr ⟨r + 1, by simpa using h1, fun i hi => ?_⟩
       cases i with
       | zero => simpa using h
       | succ i => simpa using h2 i (Nat.succ_lt_succ_iff.mp hi)
theorem smallInt_byte (n : Nat) (h : n < 256) : smallInt (n : Int) = true :=
 (by decide +kernel : ∀ n : Fin 256, smallInt ((n.val : Nat) : Int) = true) ⟨n, h⟩
theorem take_pt {b : Array UInt8} {i k : Nat} {c : UInt8} (hc : #[b.getD (3 * i) 0, b.getD (3 * i + 1) 0, b.getD (3 * i + 2) 0][k]? = some c) : (ptOf b i).take (k + 1) = (ptOf b i).take k ++ [c.toNat] := by
 have hk : k < 3 := by
   have := (Array.getElem?_eq_some_iff.mp hc).1
   simpa using this
 rcases two (Nat.le_of_lt_succ hk) with rfl | rfl | rfl <;> simp [ptOf] at hc ⊢ <;> rw [hc]
theorem BI.ints {w : World} {wv : List Value} {rt tb ws hs : Addr} {otb : Obj} {t5 t6 : Tok} {K : List (Addr × Obj)} {I : List Addr} {tk : Nat} {led st : List (Addr × Obj)} {Ns : List Nd} {S : List (List Nat × Nat)} (H : BI w wv rt tb ws hs otb t5 t6 K I tk led st Ns S) (p : List Nat) (c : UInt8) :
   IntsT ((kidsOf Ns p).map fun e => Value.int (e.p.getLast?.getD 0 : Nat) e.tv) ((kidsOf Ns p).map fun e => ((e.p.getLast?.getD 0 : Nat) : Int)) ((c.toNat : Nat) : Int) tk := by
 refine ⟨by simp, fun i v k hv hk => ?_⟩
 rw [List.getElem?_map] at hv hk
 cases he : (kidsOf Ns p)[i]? with
 | none => rw [he] at hv; cases hv
 | some e =>
   rw [he] at hv hk
   cases hv
   cases hk
   obtain ⟨e1, e2, _⟩ := kidsOf_mem (List.mem_of_getElem? he)
   obtain ⟨v1, v2, v3⟩ := H.val e e1 e2
   exact ⟨e.tv, rfl, v1, fun _ => Nat.ne_of_lt v2, smallInt_byte _ v3⟩
theorem BI.inS {w : World} {wv : List Value} {rt tb ws hs : Addr} {otb : Obj} {t5 t6 : Tok} {K : List (Addr × Obj)} {I : List Addr} {tk : Nat} {led st : List (Addr × Obj)} {Ns : List Nd} {S : List (List Nat × Nat)} (H : BI w wv rt tb ws hs otb t5 t6 K I tk led st Ns S) {e : Nd} (he : e ∈ Ns) (hp : e.p ≠ []) : e.p ∈ S.map Prod.fst := by
 rcases List.mem_cons.mp (H.some he) with h | h
 · exact absurd (congrArg Prod.fst h) hp
 · exact List.mem_map.mpr ⟨_, h, rfl⟩
theorem BI.outS {w : World} {wv : List Value} {rt tb ws hs : Addr} {otb : Obj} {t5 t6 : Tok} {K : List (Addr × Obj)} {I : List Addr} {tk : Nat} {led st : List (Addr × Obj)} {Ns : List Nd} {S : List (List Nat × Nat)} (H : BI w wv rt tb ws hs otb t5 t6 K I tk led st Ns S) {p : List Nat} (hp : p ∈ S.map Prod.fst) : ∃ e ∈ Ns, e.p = p := by
 obtain ⟨q, hq, rfl⟩ := List.mem_map.mp hp
 have : q ∈ tellOf Ns := by rw [H.tell]; exact .tail _ hq
 obtain ⟨e, he, rfl⟩ := List.mem_map.mp this
 exact ⟨e, he, rfl⟩
theorem kids_found {Ns : List Nd} {p : List Nat} {r : Nat} {c : Nat} (h : ((kidsOf Ns p).map fun e => ((e.p.getLast?.getD 0 : Nat) : Int))[r]? = some (c : Int)) : ∃ e, (kidsOf Ns p)[r]? = some e ∧ e ∈ Ns ∧ e.p = p ++ [c] := by
 rw [List.getElem?_map] at h
 cases he : (kidsOf Ns p)[r]? with
 | none => rw [he] at h; cases h
 | some e =>
   rw [he] at h
   obtain ⟨e1, e2, e3⟩ := kidsOf_mem (List.mem_of_getElem? he)
   refine ⟨e, rfl, e1, ?_⟩
   have h' : ((e.p.getLast?.getD 0 : Nat) : Int) = (c : Int) := Option.some.inj h
   have h'' : e.p.getLast?.getD 0 = c := by exact Int.ofNat_inj.mp h'
   rw [← e3, ← h'']
   rw [List.getLast?_eq_some_getLast e2, Option.getD_some]
   exact (List.dropLast_concat_getLast e2).symm
theorem kids_missed {Ns : List Nd} {p : List Nat} {c : Nat} (h : ∀ r : Nat, ((kidsOf Ns p).map fun e => ((e.p.getLast?.getD 0 : Nat) : Int))[r]? ≠ some (c : Int)) : p ++ [c] ∉ Ns.map (·.p) := by
 intro hm
 obtain ⟨e, he, q⟩ := List.mem_map.mp hm
 have hk : e ∈ kidsOf Ns p := List.mem_filter.mpr ⟨he, decide_eq_true (by rw [q]; simp)⟩
 obtain ⟨r, hr⟩ := List.getElem?_of_mem hk
 refine h r ?_
 rw [List.getElem?_map, hr]
 simp [q]
theorem news_pick2 {h₀ h : Heap} {L : Addr} {led : List (Addr × Obj)} {a b : Addr} {oa ob : Obj} (N : News h₀ L h led) (h1 : (a, oa) ∈ led) (h2 : (b, ob) ∈ led) : News h₀ L h ((a, oa) :: (b, ob) :: led.filter fun q => decide (q.1 ≠ a ∧ q.1 ≠ b)) := fun p hp => by
 rcases List.mem_cons.mp hp with rfl | hp
 · exact N _ h1
 · rcases List.mem_cons.mp hp with rfl | hp
   · exact N _ h2
   · exact N p (List.mem_filter.mp hp).1
theorem pick2_mem {led : List (Addr × Obj)} {a b : Addr} {q : Addr × Obj} (h : q ∈ led) (h1 : q.1 ≠ a) (h2 : q.1 ≠ b) : q ∈ led.filter fun q => decide (q.1 ≠ a ∧ q.1 ≠ b) := List.mem_filter.mpr ⟨h, decide_eq_true ⟨h1, h2⟩⟩
theorem pick2_off {led : List (Addr × Obj)} {a b : Addr} {q : Addr × Obj} (h : q ∈ led.filter fun q => decide (q.1 ≠ a ∧ q.1 ≠ b)) : q.1 ≠ a ∧ q.1 ≠ b := of_decide_eq_true (List.mem_filter.mp h).2
theorem item_str {prog : Program} {w : World} {A : Around} {E : Value → Shared → Prop} {s : Shared} {value slice : PySem.Expr} {h₀ : Heap} {L d : Addr} {news : List (Addr × Obj)} {o : Obj} {kvs} {k : Str} {t : Tok} {v : Value} {Q : Value → Shared → Prop}
   (N : News h₀ L s.heap news) (hp : (d, o) ∈ news) (hd : o.IsDictOf (PySem.strKind prog w) kvs) (hl : valueAt kvs k = some v) (h : Q v { s with toks := s.toks + 1 })
   (hs : subscripted slice false (.ref d) (.str k t) = operate [.ref d, .str k t] (getItem (.ref d) (.str k t)) := by with_unfolding_all rfl) :
   wpAny (model prog w) A (subscriptTail value slice (.ref d) (.str k t)) Q E s :=
 kba_turn (value' := .Name (Str.ofString "_") ⟨0, 0, 0, 0⟩) (fun _ => rfl) (kda_item N hp hd (strKind_is _ _ _ _) hl h hs fun _ => rfl)
end
section
theorem callWith_tup {M : Model} {A : Around} {pos : Pos} {id : String} {first : List Value} {elts : List Expr} {k : Nat} {tp : Pos} {env : Env} {Q E : Value → Shared → Prop} {s : Shared}
   (h : wpAny M A (eval (.Tuple elts k tp) env) (fun v s₁ => wpAny M A (call (.builtin id) (first ++ [v])) Q E s₁) E s) :
   wpAny M A (callWith pos (Value.builtin id, first).1 (Value.builtin id, first).2 (backTo pos (starEach [Expr.Tuple elts k tp] env)) []) Q E s :=
 Calls.callWith_builtin (args := [(false, eval (.Tuple elts k tp) env)]) rfl (Calls.evalArgs_plain (Calls.spliced_cons (wpAny_mono h (fun _ _ h₁ => Calls.spliced_nil h₁) fun _ _ e => e)))
section
variable {w : World} {A : Around} {h₀ : Heap} {L : Addr} {m : Str → Option Value} {s : Shared} {E : Value → Shared → Prop} {Q : Value → Shared → Prop}
set_option maxHeartbeats 4000000 in
theorem hint2_ok {a : Addr} {vs : List Value} {n : Nat} {d : Int} {td : Tok} {news : List (Addr × Obj)} (C : Cx w 390 A L h₀) (F : Fr h₀ L s.heap m) (N : News h₀ L s.heap news) (hm : (a, listOf vs.toArray n) ∈ news) (hl : vs.length ≤ 1000)
   (h : ∀ h' tk t', Fr h₀ L h' m → News h₀ L h' news → Q (.int vs.length t') { s with heap := h', toks := tk }) :
   wpAny (model PySem.Challenge.rw_wy0029_01.row.prog w) A (call (.ref 79) [.ref a, .int d td]) Q E s := by
 (((rename Cx _ _ _ _ _ => c0z); (obtain ⟨hdz, huz, hAz, hfz, hkz, Bz, Xz, CT1z, CT2z, Tz⟩ := c0z); (refine lift_around hdz huz hAz ?_); (try refine wpAny_noRaise ?_); (have q0z : (PySem.Challenge.rw_wy0029_01, fun P => (Mine.hd.heap_1 P).length) = (PySem.Challenge.rw_wy0029_01, fun P => (Mine.hd.heap_1 P).length) := by k_fill; rfl); clear q0z); (refine wpAny_call ?_); (refine' code_def ?k1 ?k2 ?k3 ?k4 ?k5 ?kA ?kF ?kK ?k6 ?k7 ?k8 ?k9 ?kB ?_ ?c2 ?c3 ?c4 ?c5; (case kA => exact rfl); (case kF => first | assumption | exact rfl); (case kK => first | assumption | exact rfl); (case k1 => k_asm); (case k2 => k_asm); (case k3 => k_asm); (case k4 => k_asm); (case k5 => k_asm); (case k6 => k_is); (case k7 => k_is); (case k8 => k_room); (case k9 => first | exact BindsTo.of_eq rfl | exact binds_K (by k_in) rfl (by k_is) rfl rfl rfl | (refine' kp_binds ?kx ?ke; (case kx => k_in); (case ke => exact fun _ => rfl))); (case c5 => decide); (case kB => exact locs rfl); (case c2 => exact rfl); (case c3 => exact rfl); (case c4 => exact rfl); k_whole; intro gz' Lz' hz' FGz' Fz' Nz' Bz' Xz' Tz'; (have c1z' := CodeHd.keeps (c := 125) (P := 123) (by assumption) (Fr.keep FGz')); (have c2z' := CodeHd.keeps (c := 108) (P := 104) (by assumption) (Fr.keep FGz')); (try dsimp only); (try k_lift Bz'); (try k_fold)); (refine wpAny_noRaise ?_))
 walk_at "zs"
 exact h _ _ _ (by k_asm) (by k_asm)
theorem grow1_mem {S : List (List Nat × Nat)} {p : List Nat} {nm : Nat} {q : List Nat × Nat} (h : q ∈ grow1 S p nm) : q ∈ S ∨ q = (p, nm) := by
 unfold grow1 at h
 split at h
 · exact .inl h
 · exact (List.mem_append.mp h).imp id List.mem_singleton.mp
theorem grow1_sub {S : List (List Nat × Nat)} {p : List Nat} {nm : Nat} {q : List Nat × Nat} (h : q ∈ S) : q ∈ grow1 S p nm := by
 unfold grow1; split
 · exact h
 · exact List.mem_append_left _ h
theorem grow1_has (S : List (List Nat × Nat)) (p : List Nat) (nm : Nat) : p ∈ (grow1 S p nm).map Prod.fst := by
 unfold grow1; split
 · assumption
 · simp
theorem growK_sub {S : List (List Nat × Nat)} {pt : List Nat} {nm k : Nat} {q : List Nat × Nat} (h : q ∈ S) : q ∈ growK S pt nm k := by
 induction k with
 | zero => exact h
 | succ k ih => rw [growK_succ]; exact grow1_sub ih
theorem growK_mem {S : List (List Nat × Nat)} {pt : List Nat} {nm k : Nat} {q : List Nat × Nat} (h : q ∈ growK S pt nm k) : q ∈ S ∨ ∃ d, d < k ∧ q = (pt.take (d + 1), nm) := by
 induction k with
 | zero => exact .inl h
 | succ k ih =>
   rw [growK_succ] at h
   rcases grow1_mem h with h | h
   · exact (ih h).imp id fun ⟨d, h1, h2⟩ => ⟨d, Nat.lt_succ_of_lt h1, h2⟩
   · exact .inr ⟨k, Nat.lt_succ_self _, h⟩
theorem growK_has {S : List (List Nat × Nat)} {pt : List Nat} {nm k d : Nat} (h : d < k) : pt.take (d + 1) ∈ (growK S pt nm k).map Prod.fst := by
 induction k with
 | zero => exact absurd h (Nat.not_lt_zero _)
 | succ k ih =>
   rw [growK_succ]
   rcases Nat.lt_or_ge d k with q | q
   · obtain ⟨x, h1, h2⟩ := List.mem_map.mp (ih q)
     exact List.mem_map.mpr ⟨x, grow1_sub h1, h2⟩
   · obtain rfl : d = k := by exact Nat.eq_of_le_of_lt_succ q h
     exact grow1_has _ _ _
theorem growN_mem {b : Array UInt8} {n : Nat} {q : List Nat × Nat} (h : q ∈ growN b n) : ∃ i d, i < n ∧ d < 3 ∧ q = ((ptOf b i).take (d + 1), i) := by
 induction n with
 | zero => cases h
 | succ n ih =>
   rw [growN_succ] at h
   rcases growK_mem h with h | ⟨d, h1, h2⟩
   · obtain ⟨i, d, h1, h2⟩ := ih h
     exact ⟨i, d, Nat.lt_succ_of_lt h1, h2⟩
   · exact ⟨n, d, Nat.lt_succ_self _, h1, h2⟩
theorem growN_has {b : Array UInt8} {n i d : Nat} (h : i < n) (hd : d < 3) : (ptOf b i).take (d + 1) ∈ (growN b n).map Prod.fst := by
 induction n with
 | zero => exact absurd h (Nat.not_lt_zero _)
 | succ n ih =>
   rw [growN_succ]
   rcases Nat.lt_or_ge i n with q | q
   · obtain ⟨x, h1, h2⟩ := List.mem_map.mp (ih q)
     exact List.mem_map.mpr ⟨x, growK_sub h1, h2⟩
   · obtain rfl : i = n := by exact Nat.eq_of_le_of_lt_succ q h
     exact growK_has hd
theorem nd_len {b : Array UInt8} {n : Nat} {Ns : List Nd} (h : tellOf Ns = ([], 0) :: growN b n) {e : Nd} (he : e ∈ Ns) : e.p.length ≤ 3 := by
 have : (e.p, e.nm) ∈ tellOf Ns := List.mem_map.mpr ⟨e, he, rfl⟩
 rw [h] at this
 rcases List.mem_cons.mp this with q | q
 · rw [show e.p = [] from congrArg Prod.fst q]; exact Nat.zero_le _
 · obtain ⟨i, d, _, _, h3⟩ := growN_mem q
   rw [show e.p = (ptOf b i).take (d + 1) from congrArg Prod.fst h3, List.length_take]
   exact Nat.le_trans (Nat.min_le_right _ _) (Nat.le_refl 3)
theorem leaf_kids {b : Array UInt8} {n : Nat} {Ns : List Nd} (h : tellOf Ns = ([], 0) :: growN b n) {e : Nd} (_ : e ∈ Ns) (h3 : e.p.length = 3) : kidsOf Ns e.p = [] := by
 unfold kidsOf
 rw [List.filter_eq_nil_iff]
 intro e' he' q
 obtain ⟨q1, q2⟩ := of_decide_eq_true q
 have l1 := nd_len h he'
 have l2 := congrArg List.length q2
 rw [List.length_dropLast] at l2
 have l3 : 0 < e'.p.length := List.length_pos_iff.mpr q1
 omega
theorem root_kids {b : Array UInt8} {n : Nat} {Ns : List Nd} (h : tellOf Ns = ([], 0) :: growN b n) (hn : 0 < n) : ∃ e r, kidsOf Ns [] = e :: r := by
 have : (ptOf b 0).take 1 ∈ (tellOf Ns).map Prod.fst := by
   rw [h]
   exact .tail _ (growN_has hn (by decide))
 obtain ⟨x, h1, h2⟩ := List.mem_map.mp this
 obtain ⟨e, he, rfl⟩ := List.mem_map.mp h1
 have : e ∈ kidsOf Ns [] := List.mem_filter.mpr ⟨he, decide_eq_true (by rw [show e.p = (ptOf b 0).take 1 from h2]; exact ⟨by simp [ptOf], rfl⟩)⟩
 cases hk : kidsOf Ns [] with
 | nil => rw [hk] at this; cases this
 | cons a r => exact ⟨a, r, rfl⟩
end
end
section
inductive HZBU : {α : Type} → Sem α → Prop
 | c0 (a1 a2) : HZBU (call (Value.type "enumerate") a1 a2)
 | c1 (a1 a2 a3 a4 a5 a6 a7) : HZBU (execs (Stmt.For a1 a2 a3 a4 a5 :: a6) a7)
 | c2 (a1 a2 a3 a4 a5 a6 a7) : HZBU (execs (Stmt.Try a1 a2 a3 a4 a5 :: a6) a7)
 | c3 (a1 a2) : HZBU (call (Value.ref 93) a1 a2)
 | c4 (a1 a2) : HZBU (call (Value.ref 79) a1 a2)
 | c5 (a1) : HZBU (pyIter a1)
 | c6 (a1 a2) : HZBU (call (Value.type "str") a1 a2)
 | c7 (a1 a2 a3 a4 a5 a6 a7 a8) : HZBU (subscriptTail a1 (Expr.Slice a2 a3 a4 a5) (Value.bytes a6 a7) (Value.ref a8))
 | c8 (a1 a2 a3) : HZBU (getMethod (Value.ref a1) a2 a3)
 | c9 (a1 a2 a3) : HZBU (getAttr (Value.ref a1) a2 a3)
 | c10 (a1 a2 a3 a4 a5 a6) : HZBU (exec (Stmt.Try a1 a2 a3 a4 a5) a6)
 | c11 (a1 a2) : HZBU (call (Value.builtin "list.append") a1 a2)
 | c12 (a1 a2 a3 a4 a5) : HZBU (subscriptTail a1 a2 (Value.ref a3) (Value.str a4 a5))
 | c13 (a1 a2) : HZBU (compareOp CmpOp.Eq (Value.ref a1) a2)
 | c14 (a1 a2 a3) : HZBU (unpackItems a1 a2 a3)
namespace ZBU
theorem hzt {α : Type} {M : Model} {A : Around} {t : Sem α} {Q : α → Shared → Prop} {E : Value → Shared → Prop} {s : Shared} (_ : HZBU t) (h : wpAny M A t Q E s) : wpAny M A t Q E s := h
end ZBU
open ZBU
inductive IBU1 (w : World) (wv : List Value) (rt tb ws hs : Addr) (otb : Obj) (t5 t6 : Tok) (rf : List (Addr × Obj)) (Ic : List Addr) (b : Array UInt8) (bt : Tok) (i t : Nat) (m : Str → Option Value) (news : List (Addr × Obj)) : Prop
 | mk (st : List (Addr × Obj)) (Ns : List Nd) (ht : 1 ≤ t) (HB : BI w wv rt tb ws hs otb t5 t6 rf Ic t news st Ns (growN b i)) (e1 : m "octets" = some (.bytes b bt)) (e2 : m "words" = some (.ref ws)) (e3 : m "hung" = some (.ref hs)) (e4 : m "root" = some (.ref rt)) (e5 : m "table" = some (.ref tb)) (e6 : 0 < i → ∃ e ∈ Ns, m "at" = some (.ref e.t) ∧ e.p = ptOf b (i - 1))
inductive IBU2 (w : World) (wv : List Value) (rt tb ws hs : Addr) (otb : Obj) (t5 t6 : Tok) (rf : List (Addr × Obj)) (Ic : List Addr) (b : Array UInt8) (bt tv : Tok) (i k t : Nat) (m : Str → Option Value) (news : List (Addr × Obj)) : Prop
 | mk (st : List (Addr × Obj)) (Ns : List Nd) (e : Nd) (ht : 1 ≤ t) (HB : BI w wv rt tb ws hs otb t5 t6 rf Ic t news st Ns (growK (growN b i) (ptOf b i) i k)) (e1 : m "octets" = some (.bytes b bt)) (e2 : m "words" = some (.ref ws)) (e3 : m "hung" = some (.ref hs)) (e4 : m "root" = some (.ref rt)) (e5 : m "table" = some (.ref tb)) (e6 : m "first" = some (.int ((0 : Int) + i * 3) tv)) (e7 : m "at" = some (.ref e.t)) (he : e ∈ Ns) (hep : e.p = (ptOf b i).take k)
section
variable {w : World} {A : Around} {h₀ : Heap} {L : Addr} {m : Str → Option Value} {rest : List (Addr × Obj)} {s : Shared} {E : Value → Shared → Prop} {Q : Value → Shared → Prop}
theorem bu_len {n i k N a c : Nat} (hn : n ≤ 27) (hi : i < n) (hk : k < 3) (hc : N = c + 1) (h1 : c ≤ a + k) (h2 : a ≤ 3 * i) : N ≤ 84 := by omega
theorem bu_len2 {n N a : Nat} (hn : n ≤ 27) (hc : N = a + 1) (h2 : a ≤ 3 * n) : N ≤ 84 := by omega
set_option maxHeartbeats 4000000 in
theorem bush_ok {b : Array UInt8} {tb : Tok} {ws hs : Addr} {wv : List Value} {wn np : Nat} {ps : Array Value} {st0 : List (Addr × Obj)} {env : Env} {A₀ : Around} {base : Heap} {p : Program} {loose : List Str} {mean : ExcName → Option Value} {mg mb : Str → Option Value}
   (hd : A.depth ≤ 310) (hu : A.units ≤ 3100) (hA : A.frames = some [env]) (hf : env.frame = some L) (hk : env.scope.kind = .function) (B : Below A₀ base [] h₀) (X : (Mine.hd.heap_1 w.params).In h₀) (CT1 : CodeHd h₀ 125 123) (CT2 : CodeHd h₀ 108 104) (T : Top p loose mean mg mb h₀)
   (XB : (Mine.hd.heap_1 w.params).In base) (TB : Top p loose mean mg mb base)
   (hh : A.handled = none) (F : Fr h₀ L s.heap m) (N : News h₀ L s.heap ((104, tabObj ps) :: rest)) (hr : ∀ q ∈ rest, q.1 ≠ 104) (hps : TabOk ps st0) (hst0 : ∀ q ∈ st0, q ∈ rest) (hst1 : ∀ q ∈ st0, q.1 ≠ ws ∧ q.1 ≠ hs)
   (hbs : b.size = 3 * np) (hnp : 0 < np ∧ np ≤ 27) (hws : (ws, listOf wv.toArray wn) ∈ rest) (hwl : wv.length ≤ 200) (hhs : (hs, listOf #[] 0) ∈ rest) (hwh : ws ≠ hs) {Ic : List Addr} (hIc : ∀ a ∈ Ic, (∃ ob, (a, ob) ∈ rest.filter fun q => decide (q.1 ≠ ws ∧ q.1 ≠ hs)) ∧ ∀ q ∈ st0, q.1 ≠ a)
   (h : ∀ h' tk tb otb t5 t6 tkk st Ns rt led, Fr h₀ L h' m → News h₀ L h' led → BI w wv rt tb ws hs otb t5 t6 (rest.filter fun q => decide (q.1 ≠ ws ∧ q.1 ≠ hs)) Ic tkk led st Ns (growN b np) → Q (.ref rt) { s with heap := h', toks := tk }) :
   wpAny (model PySem.Challenge.rw_wy0029_01.row.prog w) A (call (.ref 114) [.bytes b tb, .ref ws, .ref hs]) Q (fun _ _ => False) s := by
 refine lift_around (d := 310) hd hu hA ?_
 have q0 : (PySem.Challenge.rw_wy0029_01, fun P => (Mine.hd.heap_1 P).length) = (PySem.Challenge.rw_wy0029_01, fun P => (Mine.hd.heap_1 P).length) := by k_fill; rfl
 clear q0
 refine wpAny_call ?_
 (refine' zdefS0 ?k1 ?k2 ?k3 ?k4 ?k5 ?kA ?kF ?kK ?k6 ?k7 ?k8 ?k9 ?kB ?_ ?c2 ?c3 ?c4 ?c5; (case kA => exact rfl); (case kF => assumption); (case kK => assumption); (case k1 => assumption); (case k2 => k_asm); (case k3 => k_asm); (case k4 => k_asm); (case k5 => k_asm); (case k6 => k_is); (case k7 => k_is); (case k8 => k_room); (case k9 => first | exact BindsTo.of_eq rfl | exact binds_K (by k_in) rfl (by k_is) rfl rfl rfl); (case c5 => decide); (case kB => exact locs rfl); (case c2 => exact rfl); (case c3 => exact rfl); (case c4 => exact rfl); k_whole; intro g' L' h' FG' F' N' B' X' T' D' st' nn'; (have c1' := CodeHd.keeps (c := 125) (P := 123) (by assumption) st'); (have c2' := CodeHd.keeps (c := 108) (P := 104) (by assumption) st'); (try dsimp only); (try k_lift B'); (try k_fold))
 (refine wpAny_execs_cons (blind ?_)); intro Q' hQ'
 refine Assign_Tuple_swapped (names := ["root", "table"]) ?_
 walk_at "zs"
 rename Fr _ _ _ _ => F1
 rename News _ _ _ _ => N1
 rename (104 < _ ∧ AllLt _ rest) => hl1
 have N1' := news_sw N1
 refine wpAny_with_toks (n := 1) (by dsimp only; omega) ?_
 refine thing_any (by exact .mk (Nat.le_of_ble_eq_true rfl) (Nat.le_of_ble_eq_true rfl) rfl rfl rfl (by assumption) (by assumption) (by assumption) (by assumption) (by assumption)) (.inl hh) F1 N1' (by k_all) hps ?_
 intro h2 tk2 rt l2 B2 own c1 c2 F2 N2 P2 C2 L2 b1 b2 b3 htk2
 obtain ⟨Z, N3, hZ⟩ := news_pack2 N2
 clear N2
 walk_at "zs"
 rename Fr _ _ _ _ => F3
 rename News _ _ _ _ => N3'
 refine unpackItemsN_ F3 N3' ⟨_, (N3' _ (.head _)).1, rfl, _, rfl⟩ hh rfl ?_
 intro h4 F4 N4
 clear F3 N3'
 refine wpAny_with_toks (n := 1) (by dsimp only at htk2 ⊢; omega) ?_
 walk_at "zs"
 (try clear N4); (try clear F4)
 (with_reducible refine wpAny_execs_cons (blind ?_)); intro _ _; refine wpAny_For ?_
 refine wpAny_with_toks (n := 1) (by assumption) ?_
 walk_at "zs"
 rename IsRange _ _ _ _ _ _ _ _ => hR
 rename Fr _ _ _ _ => F5
 rename News _ _ _ _ => N5
 rename (1 ≤ _) => htk5
 rename (_ < _ ∧ _ < _ ∧ AllLt _ (Z ++ _)) => hlt1
 obtain ⟨tb', otb, t5, t6, BI0, etb⟩ : ∃ tb' otb t5 t6, BI w wv rt tb' ws hs otb t5 t6 _ Ic _ _ _ _ [] ∧ tb' = _ := ⟨_, _, _, _, BI.start (tk := 1) N5 P2 C2 (fun q hq => (AllLt.mem L2 q (.tail _ hq))) b1 b2 b3 hlt1.1 hr hst0 hst1 hws hhs hwh hIc
   (.tail _ (.tail _ (.head _))) (.tail _ (.tail _ (.tail _ (.head _)))) (fun q hq => .tail _ (.tail _ (.tail _ (.tail _ (List.mem_append_left _ (hZ ▸ hq)))))) (fun q hq => .tail _ (.tail _ (.tail _ (.tail _ (List.mem_append_right _ (.tail _ hq)))))) (.tail _ (.head _)) (by assumption) (by assumption) (by dsimp only; first | exact Nat.ne_of_gt htk2 | exact Nat.succ_ne_zero _), rfl⟩
 generalize (rest.filter fun q => decide (q.1 ≠ ws ∧ q.1 ≠ hs)) = rf at BI0 hIc h
 refine zrange (n := np) hh F5 N5 hR ?_ ?_ ?_
 · rw [hbs]; exact range3_small np hnp.2
 · rw [hbs]; exact range3_size np hnp.2
 intro I o O h6 SR hO hoff hown F6 N6
 clear hR F5 N5
 rename Below _ _ _ _ => BG
 rename KtsDicts _ _ => DG
 rename Heap.StaysIn h₀ _ => SG
 have bl : (growN b 0) = [] := rfl
 refine zforGO (SR _ _) (fun g => Turns (zA 310 A.handled A.guards env []) base h₀ env _ g)
   (fun i t m news => IBU1 w wv rt tb' ws hs otb t5 t6 rf Ic b tb i t m news) (fun _ _ _ _ _ _ hp => nomatch hp) ⟨KtsTurn.refl, BG, DG, SG⟩ F6 N6 hO hoff ⟨_, _, htk5, BI0.later htk5, by walk_at "zlook", by walk_at "zlook", by walk_at "zlook", by walk_at "zlook", by rw [etb]; walk_at "zlook", fun h => absurd h (Nat.lt_irrefl 0)⟩ ?_ ?_
 · clear BI0 F6 N6 hO hoff
   intro J' G' R' σ hJJ hGG g i v x t₀ o₁ m₁ news₁ h₁ tk₁ hG hi HJ HP hle hO₁ ho₁ hx hn₁ F7 N7
   ((refine opq ?_); intro G' hG')
   obtain ⟨st, Ns, ht, HB, e1, e2, e3, e4, e5, e6⟩ := HJ
   obtain ⟨⟨tv, rfl⟩, rfl⟩ := HP
   ((with_reducible rename Opq _ _ => hG'); (refine hG' ?_); clear hG'; (try dsimp only))
   have Xg := X.keeps hG.stays
   have Tg := T.keeps hG.stays
   have Bg := hG.below
   have Dg := hG.dicts
   have C1g := CT1.keeps hG.stays
   have C2g := CT2.keeps hG.stays
   walk_at "zs"
   (with_reducible refine wpAny_execs_cons (blind ?_)); intro _ _; refine wpAny_For ?_
   refine wpAny_with_toks (n := tk₁) (by dsimp only; omega) ?_
   walk_at "zs"
   rename Fr _ _ _ _ => F8
   rename News _ _ _ _ => N8
   refine KBc.slice_K (s := ⟨_, _, _, _, _⟩) F8 N8 rfl (by constructor) (by constructor) (by rw [KBw.ints_length, hbs]; omega) ?_
   intro h9 t9 k9 F9 N9 _ htk9
   rw [picked3 hbs hi]
   clear F8 N8
   refine zbytes hh F9 N9 ?_
   intro I2 o2 O2 h10 SB hO2 hoff2 hown2 F10 N10
   clear F9 N9
   have hKI : ∀ q ∈ rf, q.1 ∉ [I] := fun q hq => hn₁ q (HB.keep q hq)
   have BI1 := HB.enter ho₁ hn₁ ((SR "" default).live _ _ hO₁)
   refine x2a2 (HB.root) ?_; rintro e₀ es hNs hrt
   have he0 : e₀.p = [] := by have := HB.tell; rw [hNs] at this; exact congrArg Prod.fst (List.cons.inj this).1
   refine zforGO (SB _ _) (fun g => Turns (zA 310 A.handled A.guards env []) base h₀ env _ g)
     (fun k t m news => IBU2 w wv rt tb' ws hs otb t5 t6 (o₁ ++ rf) ([I] ++ Ic) b tb tv i k t m news) (fun _ _ _ _ _ _ hp => nomatch hp) hG F10 N10 hO2 hoff2 ⟨_, Ns, e₀, Nat.le_trans ht (Nat.le_trans hle htk9), BI1.later (Nat.le_trans hle htk9), by walk_at "zlook", by walk_at "zlook", by walk_at "zlook", by walk_at "zlook", by walk_at "zlook", by walk_at "zlook", by rw [hrt]; walk_at "zlook", by rw [hNs]; exact .head _, he0⟩ ?_ ?_
   · clear hO2 hoff2 hown2 F10 N10 BI1 HB hNs hrt he0 hx
     intro J2 G2 R2 σ2 hJJ2 hGG2 g2 k v x t₂ o₃ m₂ news₂ h₂ tk₂ hG2 hk HJ HP hle2 hO₃ ho₃ hx2 hn₂ F11 N11
     ((refine opq ?_); intro G' hG')
     obtain ⟨st, Ns, e, ht2, HB, f1, f2, f3, f4, f5, f6, f7, he, hep⟩ := HJ
     obtain ⟨⟨c, hc, rfl, htk'⟩, rfl⟩ := HP
     ((with_reducible rename Opq _ _ => hG'); (refine hG' ?_); clear hG'; (try dsimp only))
     clear Xg Tg Bg Dg C1g C2g hG
     have Xg := X.keeps hG2.stays
     have Tg := T.keeps hG2.stays
     have Bg := hG2.below
     have Dg := hG2.dicts
     have C1g := CT1.keeps hG2.stays
     have C2g := CT2.keeps hG2.stays
     have BI2 := HB.enter ho₃ hn₂ ((SB "" default).live _ _ hO₃)
     simp only [List.nil_append] at N11
     walk_at "zs"
     (try dsimp only)
     refine wpAny_execs_cons (wpAny_Try_except ?_)
     walk_at "zs"
     rename Fr _ _ _ _ => F12
     rename News _ _ _ _ => N12
     obtain ⟨nk, mk⟩ := BI2.bush.kids e he
     have hst := BI2.bush.sub
     refine (BI2.bush.node e he).gKids N12 hst ?_
     walk_at "zs"
     refine zcompF F12 (by exact rfl) (by decide) (by exact rfl) (by decide) ?_
     walk_at "zs"
     refine (BI2.bush.node e he).gKids N12 hst ?_
     refine zlist hh F12 N12 mk ?_
     intro I4 o4 O4 h13 S4 hO4 hoff4 hown4 F13 N13
     clear F12 N12
     have hcnt := BI2.count
     have hlen1 := growK_len (growN b i) (ptOf b i) i k
     have hlen2 := growN_len b i
     have hk3 : k < 3 := by simpa using hk
     have hL := bu_len ‹0 < np ∧ np ≤ 27›.2 hi hk3 hcnt hlen1 hlen2
     have hkl := Nat.le_trans (kidsOf_len Ns e.p) hL
     clear hlen1 hlen2
     refine zcl1O (names := ["kid"]) hh (S4 _ (zgoN I4)) (fun i vs x => ∃ e', (kidsOf Ns e.p)[i]? = some e' ∧ vs = [.ref e'.t] ∧ x = []) (fun i ys nw => nw = o₃ ++ news₂ ∧ ys = ((kidsOf Ns e.p).take i).map fun e => Value.int (e.p.getLast?.getD 0 : Nat) e.tv)
       ?_ ?_ (by exact rfl) (by decide) F13 N13 hO4 hoff4 ⟨rfl, rfl⟩ ?_ ?_
     · rintro i ys nw ⟨rfl, rfl⟩
       refine ⟨fun p hp => by rw [List.mem_singleton.mp hp]; exact mk, ?_⟩
       simp only [List.length_map, List.length_take]
       exact Nat.le_trans (Nat.min_le_right _ _) (Nat.le_trans hkl (by decide))
     · rintro i v x t u ys nw hi' ⟨rfl, rfl⟩ ⟨h1, rfl⟩
       obtain ⟨e', he', rfl⟩ : ∃ e', (kidsOf Ns e.p)[i]? = some e' ∧ Value.ref e'.t = v := by simpa using h1
       exact ⟨_, ⟨e', he', rfl, rfl⟩, .name⟩
     · intro J' σ hJJ C D i vals x o m₃ oC ys nw h14 tk14 hi' HJ HV ho hxx hnn hC F14 N14
       ((refine opq ?_); intro G' hG')
       obtain ⟨rfl, rfl⟩ := HJ
       obtain ⟨e', he', rfl, rfl⟩ := HV
       ((with_reducible rename Opq _ _ => hG'); (refine hG' ?_); clear hG'; (try dsimp only))
       refine compTests_nil ?_
       obtain ⟨e1, e2, e3⟩ := kidsOf_mem (List.mem_of_getElem? he')
       refine x1a3 (BI2.bush.attr e' e1 e2) ?_; rintro oa a1 a2 a3
       have mm : ∀ q ∈ st, q ∈ (C, oC) :: (D, listOf (List.map (fun e : Nd => Value.int (e.p.getLast?.getD 0 : Nat) e.tv) (List.take i (kidsOf Ns e.p))).toArray (List.map (fun e : Nd => Value.int (e.p.getLast?.getD 0 : Nat) e.tv) (List.take i (kidsOf Ns e.p))).length) :: ([] ++ (o ++ (o₃ ++ news₂))) := fun q hq => .tail _ (.tail _ (List.mem_append_right [] (List.mem_append_right o (hst q hq))))
       walk_at "zs"
       refine (BI2.bush.node e' e1).gAttrib N14 mm ?_
       walk_at "zs"
       refine item_str N14 (mm _ a1) a3 rfl ?_
       refine CNext.intro hC F14 N14 (.head _) (.tail _ (.head _)) (fun p hp => .tail _ (.tail _ (List.mem_append_right [] (List.mem_append_left _ hp)))) (fun p hp => .tail _ (.tail _ (List.mem_append_right [] (List.mem_append_right o hp)))) hnn (hJJ _ _ _ ⟨rfl, ?_⟩)
       rw [List.take_add_one, he', List.map_append]; rfl
     · rintro D ys nw hD ⟨rfl, rfl⟩
       intro h15 tk15 F15 N15
       have hall : List.take (refsOf (kidsOf Ns e.p)).toArray.size (kidsOf Ns e.p) = kidsOf Ns e.p := List.take_of_length_le (by simp)
       rw [hall] at N15
       walk_at "zs"
       have hIT := BI2.ints e.p c
       rcases first_idx ((kidsOf Ns e.p).map fun e => ((e.p.getLast?.getD 0 : Nat) : Int)) ((c.toNat : Nat) : Int) with hno | ⟨r, hr1, hr2⟩
       · refine index_no (by exact Nat.le_of_ble_eq_true rfl) (by exact Nat.le_of_ble_eq_true rfl) (by exact rfl) (by exact rfl) (by exact rfl) Bg Xg C1g C2g Tg hh F15 N15 (.head _) hIT (Nat.ne_of_gt ht2) hno ?_
         intro g3 ee tt tm h16 tk16 F16 R16 U16 c16
         refine caught2 R16 c16 F16 Bg U16 XB TB Dg (by exact rfl) ?_
         intro h17 g4 nx tk17 KT F17 N17 GT hx17 B17 X17 T17 D17 ap17
         refine x2a3 (BI2.words) ?_; rintro us nw hwm hul hus
         clear F16 R16 U16 c16 Xg Tg Bg Dg C1g C2g F15 N15
         have S17 : h₀.StaysIn g4 := stays_turn F hf hG2.stays KT
         have C1h := CT1.keeps S17
         have C2h := CT2.keeps S17
         walk_at "zs"
         refine PySem.Calls.getMethod_list_append (N17 _ (List.mem_append_right _ (.tail _ hwm))).1 rfl rfl ?_
         walk_at "zs"
         refine str_got_one PySem.F.excStr_ValueError (fun p hp => N17 p (List.mem_append_left _ hp)) GT ?_ ?_
         · first | exact Nat.le_of_ble_eq_true rfl | units_room | k_room
         walk_at "zs"
         refine append_led F17 N17 (List.mem_append_right _ (.tail _ hwm)) (by simp; omega) ?_
         intro h18 F18 N18
         walk_at "zs"
         refine x2a2 (BI2.tab) ?_; rintro c1' c2' m104 hco
         refine x2a3 hx17 ?_; clear hx17; rintro oe wss mee hoed ho2
         have hl18 : e.l ≠ ws ∧ e.l ≠ hs := BI2.lap e he
         have in17 : ∀ q ∈ o₃ ++ news₂, q.1 ≠ ws → q ∈ upd ws (listOf (wv ++ us ++ [Value.str wordMsg tm]).toArray (nw + 1)) (nx ++ (D, listOf (List.map (fun e : Nd => Value.int (e.p.getLast?.getD 0 : Nat) e.tv) (kidsOf Ns e.p)).toArray (List.map (fun e : Nd => Value.int (e.p.getLast?.getD 0 : Nat) e.tv) (kidsOf Ns e.p)).length) :: (o₃ ++ news₂)) := fun q hq hw => upd_keep (List.mem_append_right _ (.tail _ hq)) hw
         have Np := news_pick2 N18 (in17 _ mk hl18.1) (in17 _ m104 (Ne.symm BI2.w4.1))
         obtain ⟨full, hfull⟩ : ∃ Z, Z = upd ws (listOf (wv ++ us ++ [Value.str wordMsg tm]).toArray (nw + 1)) (nx ++ (D, listOf (List.map (fun e : Nd => Value.int (e.p.getLast?.getD 0 : Nat) e.tv) (kidsOf Ns e.p)).toArray (List.map (fun e : Nd => Value.int (e.p.getLast?.getD 0 : Nat) e.tv) (kidsOf Ns e.p)).length) :: (o₃ ++ news₂)) := ⟨_, rfl⟩
         rw [← hfull] at Np in17
         have inst : ∀ q ∈ st, q ∈ full.filter fun q => decide (q.1 ≠ e.l ∧ @Ne Nat q.1 104) := fun q hq => pick2_mem (in17 q (hst q hq) (BI2.stap q hq).1) (BI2.bush.apart e he q hq) (BI2.bush.n104.2 q hq)
         have mee' : (ee, oe) ∈ full.filter fun q => decide (q.1 ≠ e.l ∧ @Ne Nat q.1 104) := by
           refine pick2_mem ?_ (ap17 _ mee _ (.tail _ mk)) (ap17 _ mee _ (.tail _ m104))
           rw [hfull]
           exact upd_keep (List.mem_append_left _ mee) (ap17 _ mee _ (.tail _ hwm))
         refine sub_ok (t4 := 0) (ks := refsOf (kidsOf Ns e.p)) (st := st) (by exact .mk (Nat.le_of_ble_eq_true rfl) (Nat.le_of_ble_eq_true rfl) rfl rfl rfl (by assumption) (by assumption) (by assumption) (by assumption) (by assumption)) (.inr ⟨ee, oe, wss, rfl, mee', hoed, ho2⟩) F18 Np (fun p hp => (pick2_off hp).2) (fun p hp => (pick2_off hp).1) (BI2.bush.n104.1 e he) (by simp; exact Nat.le_trans hkl (by decide)) inst (BI2.bush.node e he) hco (inst _ BI2.tabl.1) BI2.tabl.2.1 BI2.tabl.2.2 ?_
         intro h19 tk19 t' l' B' a' oa own' d1 d2 F19 N19 NA ma hsa hda hcn LB b1' b2' b3' b4'
         clear F17 N17 F18 N18 Np
         walk_at "zs"
         rename Fr _ _ _ _ => F20
         rename News _ _ _ _ => N20
         obtain ⟨nh, nhk, mh, hhv⟩ : ∃ nh nhk, (hs, listOf nh.toArray nhk) ∈ o₃ ++ news₂ ∧ HungIs st Ns.tail nh := BI2.hung
         have mh' : (hs, listOf nh.toArray nhk) ∈ full.filter fun q => decide (q.1 ≠ e.l ∧ @Ne Nat q.1 104) := pick2_mem (in17 _ mh (Ne.symm BI2.w4.2.2)) (Ne.symm hl18.2) BI2.w4.2.1
         refine PySem.Calls.getMethod_list_append (N20 _ (.tail _ (.tail _ (.tail _ (List.mem_append_right _ mh'))))).1 rfl rfl ?_
         refine callWith_tup ?_
         walk_at "zs"
         have inN : ∀ q ∈ own' ++ st, q ∈ (e.l, listOf (refsOf (kidsOf Ns e.p) ++ [Value.ref t']).toArray (nk + 1)) :: (l', listOf #[] 0) :: (104, tabObj (tab2 d1 d2)) :: (own' ++ full.filter fun q => decide (q.1 ≠ e.l ∧ @Ne Nat q.1 104)) := fun q hq =>
           .tail _ (.tail _ (.tail _ ((List.mem_append.mp hq).elim (List.mem_append_left _) fun h => List.mem_append_right _ (inst q h))))
         refine NA.gTag N20 inN fun tt4 => ?_
         walk_at "zs"
         refine NA.gAttrib N20 inN ?_
         have lt20 := fun p hp => Heap.lt_size (N20 p hp).1
         walk_at "zs"
         rename Fr _ _ _ _ => F21
         rename News _ _ _ _ => N21
         have hnl := hhv.1
         rw [List.length_tail] at hnl
         refine append_led F21 N21 (.tail _ (.tail _ (.tail _ (.tail _ (List.mem_append_right _ mh'))))) (by rw [hnl]; exact Nat.le_trans (Nat.sub_le _ _) (Nat.le_trans hL (by decide))) ?_
         intro h22 F22 N22
         walk_at "zs"
         rename Fr _ _ _ _ => F23
         rename News _ _ _ _ => N23
         rename (tk₂ ≤ _) => htk23
         have hTk := take_pt hc
         have hmiss := kids_missed hno
         have hpe : e.p ++ [c.toNat] = (ptOf b i).take (k + 1) := by rw [hep, hTk]
         have hgr : growK (growN b i) (ptOf b i) i (k + 1) = growK (growN b i) (ptOf b i) i k ++ [(e.p ++ [c.toNat], i)] := by
           rw [growK_succ, ← hpe]
           refine if_neg fun h => ?_
           obtain ⟨e5, h5, h6⟩ := BI2.outS h
           exact hmiss (List.mem_map.mpr ⟨e5, h5, h6⟩)
         have mws : (ws, listOf (wv ++ us ++ [Value.str wordMsg tm]).toArray (nw + 1)) ∈ full.filter fun q => decide (q.1 ≠ e.l ∧ @Ne Nat q.1 104) := pick2_mem (by rw [hfull]; exact .head _) (Ne.symm hl18.1) BI2.w4.1
         have BB : ∀ q ∈ o₃ ++ news₂, @LT.lt Nat _ q.1 B' := fun q hq => by
           by_cases z1 : q.1 = e.l
           · rw [z1]; exact b1'
           · by_cases z2 : @Eq Nat q.1 104
             · rw [show q.1 = (104 : Nat) from z2]; exact b2'
             · by_cases z3 : q.1 = ws
               · rw [z3]; exact AllLt.mem LB _ mws
               · exact AllLt.mem LB q (pick2_mem (in17 q hq z3) z1 z2)
         have ltl : @LT.lt Nat _ l' _ := lt20 _ (.tail _ (.head _))
         have hs' : @LT.lt Nat _ hs B' := BB _ mh
         have hfd : ((0 : Int) + i * 3).fdiv 3 = i := by rw [Int.zero_add]; exact Int.mul_fdiv_cancel _ (by decide)
         rw [hfd] at hda
         obtain ⟨fin, hfin, N24⟩ : ∃ Z, Z = _ ∧ News g4 _ _ Z := ⟨_, rfl, N23⟩
         clear N23
         have BI3 := BI2.hang (led' := fin) (e₁ := ⟨e.p ++ [c.toNat], i, t', l', a', t5, t₂, _⟩) (v := c.toNat) (tk' := tk) (T := _) he rfl hmiss (by rw [hfin]; exact upd_keep (.tail _ (.head _)) hl18.2) (by rw [hfin]; exact upd_keep (.tail _ (.tail _ (.head _))) (Nat.ne_of_gt (Nat.lt_of_lt_of_le hs' b3')))
           (by rw [hfin]; exact upd_keep (.tail _ (.tail _ (.tail _ (.head _)))) (Ne.symm BI2.w4.2.1)) (fun q hq => by rw [hfin]; exact upd_keep (.tail _ (.tail _ (.tail _ (.tail _ (List.mem_append_left _ hq))))) (Nat.ne_of_gt (Nat.lt_of_lt_of_le hs' (b4' q hq).1)))
           (by rw [hfin]; exact upd_keep (.head _) (Nat.ne_of_gt (Nat.lt_trans (Nat.lt_of_lt_of_le hs' b3') ltl))) (by rw [hfin]; exact upd_keep (.tail _ (.tail _ (.tail _ (.tail _ (List.mem_append_right _ mws))))) BI2.w4.2.2) ⟨hul, hus⟩ (by rw [hfin]; exact .head _) hhv
           (fun q hq z1 z2 z3 z4 => by rw [hfin]; exact upd_keep (.tail _ (.tail _ (.tail _ (.tail _ (List.mem_append_right _ (pick2_mem (in17 q hq z3) z1 z2)))))) z4) NA ma hsa hda hcn BB b3' b4' b2' ⟨Nat.le_trans b3' (Nat.le_of_lt ltl), Nat.ne_of_gt ltl⟩ rfl
           ⟨Nat.ne_of_gt ht2, Nat.lt_of_lt_of_le (Nat.lt_of_lt_of_eq (Nat.lt_succ_self _) htk'.symm) htk23, c.toNat_lt⟩ (Nat.le_trans hle2 htk23)
         have BI4 := BI3.leave (fun q hq => hn₂ q (HB.keep q hq)) (fun a ha => (HB.iap a ha).1)
         (try dsimp only [ZTurn])
         refine ⟨g4, hGG2 _ ⟨hG2.turn.trans KT, B17, D17, S17⟩, ZNext.intro F23 (fun p hp => ?_) (fun p hp => of_decide_eq_true (List.mem_filter.mp hp).2) (hJJ2 _ _ _ _ ⟨_, _, _, ?_, by rw [hgr]; exact BI4, by walk_at "zlook", by walk_at "zlook", by walk_at "zlook", by walk_at "zlook", by walk_at "zlook", by walk_at "zlook", by walk_at "zlook", List.mem_append_right _ (.head _), hpe⟩)⟩
         · rcases List.mem_append.mp hp with hp | hp
           · exact N24 p (BI3.keep p (List.mem_append_left _ hp))
           · exact N24 p (List.mem_filter.mp hp).1
         · exact Nat.le_trans ht2 (Nat.le_trans hle2 htk23)
       · refine x1a3 (kids_found hr1) ?_; rintro e' he' he1 he2
         refine index_ok (by exact .mk (Nat.le_of_ble_eq_true rfl) (Nat.le_of_ble_eq_true rfl) rfl rfl rfl (by assumption) (by assumption) (by assumption) (by assumption) (by assumption)) hh F15 N15 (.head _) hIT (Nat.ne_of_gt ht2) r hr1 hr2 ?_
         intro h16 tk16 t16 F16 N16
         refine item_any (News.isList N16 (.tail _ mk)) ?_ (x := .ref e'.t) ?_ ?_
         · exact Nat.lt_trans (Nat.lt_of_lt_of_le (List.getElem?_eq_some_iff.mp he').1 hkl) (by decide)
         · simpa using congrArg (Option.map fun e : Nd => Value.ref e.t) he'
         walk_at "zs"
         rename Fr _ _ _ _ => F18
         rename News _ _ _ _ => N18
         rename (tk₂ ≤ _) => htk18
         have hTk := take_pt hc
         have he3 : e'.p = (ptOf b i).take (k + 1) := by rw [he2, hep, hTk]
         have hgr : growK (growN b i) (ptOf b i) i (k + 1) = growK (growN b i) (ptOf b i) i k := by
           rw [growK_succ, ← he3]; exact if_pos (BI2.inS he1 (by rw [he2]; simp))
         (try dsimp only [ZTurn])
         exact ⟨g2, hGG2 _ hG2, ZNext.intro F18 (fun p hp => N18 p (.tail _ hp)) hn₂ (hJJ2 _ _ _ _ ⟨st, Ns, e', Nat.le_trans ht2 (Nat.le_trans hle2 htk18), by rw [hgr]; exact HB.later (Nat.le_trans hle2 htk18), by walk_at "zlook", by walk_at "zlook", by walk_at "zlook", by walk_at "zlook", by walk_at "zlook", by walk_at "zlook", by walk_at "zlook", he1, he3⟩)⟩
   · clear hO2 hoff2 hown2 F10 N10 BI1 HB hNs hrt he0 hx hG
     intro g2 h' tk m' news' hG2 F11 N11 HJ
     obtain ⟨t2, htt, st, Ns, e, ht2, HB, f1, f2, f3, f4, f5, f6, f7, he, hep⟩ := HJ
     clear Xg Tg Bg Dg C1g C2g
     walk_at "zs"
     have BI2 := HB.leave hKI (fun a ha => (hIc a ha).1)
     (try dsimp only [ZTurn])
     refine ⟨g2, hGG _ hG2, ZNext.intro F11 (fun p hp => ?_) (fun p hp => of_decide_eq_true (List.mem_filter.mp hp).2) (hJJ _ _ _ _ ⟨st, Ns, Nat.le_trans ht2 htt, by rw [growN_succ]; exact BI2.later htt, f1, f2, f3, f4, f5, fun _ => ⟨e, he, f7, hep⟩⟩)⟩
     rcases List.mem_append.mp hp with hp | hp
     · exact N11 p (HB.keep p (List.mem_append_left _ hp))
     · exact N11 p (List.mem_filter.mp hp).1
 · clear F6 N6 hO hoff hown BI0
   intro g h' tk m' news' hG F7 N7 HJ
   obtain ⟨t2, htt, st, Ns, ht2, HB, e1, e2, e3, e4, e5, e6⟩ := HJ
   have Xg := X.keeps hG.stays
   have Tg := T.keeps hG.stays
   have Bg := hG.below
   have Dg := hG.dicts
   have C1g := CT1.keeps hG.stays
   have C2g := CT2.keeps hG.stays
   refine x1a3 (e6 hnp.1) ?_; rintro e he f7 hep
   refine x2a2 (HB.root) ?_; rintro r₀ rs hr0 hrt0
   have hr1 : r₀ ∈ Ns := by rw [hr0]; exact .head _
   have hrp : r₀.p = [] := by have := HB.tell; rw [hr0] at this; exact congrArg Prod.fst (List.cons.inj this).1
   obtain rfl := hrt0
   walk_at "zs"
   refine isel_node (by exact .mk (Nat.le_of_ble_eq_true rfl) (Nat.le_of_ble_eq_true rfl) rfl rfl rfl (by assumption) (by assumption) (by assumption) (by assumption) (by assumption)) F7 N7 (HB.bush.node _ hr1) HB.bush.sub ?_
   intro h8 tk8 F8 N8
   walk_at "zs"
   refine isel_node (by exact .mk (Nat.le_of_ble_eq_true rfl) (Nat.le_of_ble_eq_true rfl) rfl rfl rfl (by assumption) (by assumption) (by assumption) (by assumption) (by assumption)) F8 N8 (HB.bush.node _ he) HB.bush.sub ?_
   intro h9 tk9 F9 N9
   walk_at "zs"
   refine isel_dict (by exact .mk (Nat.le_of_ble_eq_true rfl) (Nat.le_of_ble_eq_true rfl) rfl rfl rfl (by assumption) (by assumption) (by assumption) (by assumption) (by assumption)) hh F9 N9 (HB.bush.sub _ HB.tabl.1) HB.tabl.2.2 ?_
   intro h10 tk10 F10 N10
   walk_at "zs"
   refine x2a3 (HB.words) ?_; rintro us nw hwm hul hus
   refine isel_list (by exact .mk (Nat.le_of_ble_eq_true rfl) (Nat.le_of_ble_eq_true rfl) rfl rfl rfl (by assumption) (by assumption) (by assumption) (by assumption) (by assumption)) hh F10 N10 hwm ?_
   intro h11 tk11 F11 N11
   walk_at "zs"
   rename Fr _ _ _ _ => F12
   rename News _ _ _ _ => N12
   rename Obj.IsDictOf _ _ _ => hd12
   rename ((_ == sysModules) = false) => hy12
   refine keq_pairs (knd := PySem.strKind _ _) N12 (.tail _ (HB.bush.sub _ HB.tabl.1)) (.head _) HB.tabl.2.2 hd12 HB.tabl.2.1 hy12 rfl (by k_units) (.hit (by rfl) (SeqAt.EqAt.int_int _ _ _ _) (.hit (by rfl) (SeqAt.EqAt.int_int _ _ _ _) .nil)) ?_
   walk_at "zs"
   obtain ⟨nk, mk⟩ := HB.bush.kids e he
   have hst := HB.bush.sub
   refine (HB.bush.node e he).gKids N12 (fun q hq => .tail _ (hst q hq)) ?_
   walk_at "zs"
   rw [leaf_kids HB.tell he (by rw [hep]; rfl)] at mk
   refine hint2_ok (by exact .mk (Nat.le_of_ble_eq_true rfl) (Nat.le_of_ble_eq_true rfl) rfl rfl rfl (by assumption) (by assumption) (by assumption) (by assumption) (by assumption)) F12 N12 (.tail _ mk) (Nat.zero_le _) ?_
   intro h13 tk13 t13 F13 N13
   clear mk
   walk_at "zs"
   obtain ⟨nk, mk⟩ := HB.bush.kids r₀ hr1
   refine wpAny_with_toks (n := 1) (by exact Nat.succ_le_succ (Nat.zero_le _)) ?_
   refine zcompF F13 (by exact rfl) (by decide) (by exact rfl) (by decide) ?_
   walk_at "zs"
   refine (HB.bush.node r₀ hr1).gKids N13 (fun q hq => .tail _ (hst q hq)) ?_
   refine zlist hh F13 N13 (.tail _ mk) ?_
   intro I4 o4 O4 h14 S4 hO4 hoff4 hown4 F14 N14
   have hcnt := HB.count
   have hlen2 := growN_len b np
   have hkl := Nat.le_trans (kidsOf_len Ns r₀.p) (bu_len2 ‹0 < np ∧ np ≤ 27›.2 hcnt hlen2)
   obtain ⟨nwT, hnwT, mk2, mst⟩ : ∃ Z, Z = _ ∧ (r₀.l, listOf (refsOf (kidsOf Ns r₀.p)).toArray nk) ∈ Z ∧ ∀ q ∈ st, q ∈ Z := ⟨_ :: news', rfl, (List.Mem.tail _ mk), fun q hq => List.Mem.tail _ (hst q hq)⟩
   rw [← hnwT] at N13 N14 hoff4
   refine zcl1O (names := ["kid"]) hh (S4 _ (zgoN I4)) (fun i vs x => ∃ e', (kidsOf Ns r₀.p)[i]? = some e' ∧ vs = [.ref e'.t] ∧ x = []) (fun i ys nw => nwT = nw ∧ ys = ((kidsOf Ns r₀.p).take i).map fun e => Value.int 7 e.tm)
       ?_ ?_ (by exact rfl) (by decide) F14 N14 hO4 hoff4 ⟨rfl, rfl⟩ ?_ ?_
   · rintro i ys nw ⟨rfl, rfl⟩
     refine ⟨fun p hp => by rw [List.mem_singleton.mp hp]; exact mk2, ?_⟩
     simp only [List.length_map, List.length_take]
     exact Nat.le_trans (Nat.min_le_right _ _) (Nat.le_trans hkl (by decide))
   · rintro i v x t u ys nw hi' ⟨rfl, rfl⟩ ⟨h1, rfl⟩
     obtain ⟨e', he', rfl⟩ : ∃ e', (kidsOf Ns r₀.p)[i]? = some e' ∧ Value.ref e'.t = v := by simpa using h1
     exact ⟨_, ⟨e', he', rfl, rfl⟩, .name⟩
   · intro J' σ hJJ C D i vals x o m₃ oC ys nw h14 tk14 hi' HJ HV ho hxx hnn hC F14 N14
     ((refine opq ?_); intro G' hG')
     obtain ⟨rfl, rfl⟩ := HJ
     obtain ⟨e', he', rfl, rfl⟩ := HV
     ((with_reducible rename Opq _ _ => hG'); (refine hG' ?_); clear hG'; (try dsimp only))
     refine compTests_nil ?_
     obtain ⟨e1, e2, e3⟩ := kidsOf_mem (List.mem_of_getElem? he')
     refine x1a3 (HB.bush.attr e' e1 e2) ?_; rintro oa a1 a2 a3
     have mm : ∀ q ∈ st, q ∈ (C, oC) :: (D, listOf (List.map (fun e : Nd => Value.int 7 e.tm) (List.take i (kidsOf Ns r₀.p))).toArray (List.map (fun e : Nd => Value.int 7 e.tm) (List.take i (kidsOf Ns r₀.p))).length) :: ([] ++ (o ++ nwT)) := fun q hq => .tail _ (.tail _ (List.mem_append_right [] (List.mem_append_right o (mst q hq))))
     walk_at "zs"
     refine (HB.bush.node e' e1).gAttrib N14 mm ?_
     walk_at "zs"
     refine item_str N14 (mm _ a1) a3 rfl ?_
     refine CNext.intro hC F14 N14 (.head _) (.tail _ (.head _)) (fun p hp => .tail _ (.tail _ (List.mem_append_right [] (List.mem_append_left _ hp)))) (fun p hp => .tail _ (.tail _ (List.mem_append_right [] (List.mem_append_right o hp)))) hnn (hJJ _ _ _ ⟨rfl, ?_⟩)
     rw [List.take_add_one, he', List.map_append]; rfl
   · rintro D ys nw hD ⟨rfl, rfl⟩
     intro h15 tk15 F15 N15
     have hall : List.take (refsOf (kidsOf Ns r₀.p)).toArray.size (kidsOf Ns r₀.p) = kidsOf Ns r₀.p := List.take_of_length_le (by simp)
     rw [hall] at N15
     intro htk15
     walk_at "zs"
     obtain ⟨kc, kr, hkk⟩ := root_kids HB.tell hnp.1
     rw [hrp] at N15
     refine index_ok (x := 7) (ks := (kidsOf Ns []).map fun _ => 7) (by exact .mk (Nat.le_of_ble_eq_true rfl) (Nat.le_of_ble_eq_true rfl) rfl rfl rfl (by assumption) (by assumption) (by assumption) (by assumption) (by assumption)) hh F15 N15 (.head _) ⟨by simp, fun i v k h1 h2 => ?_⟩ (Nat.ne_of_gt htk15) 0 (by rw [hkk]; rfl) (fun i hi => absurd hi (Nat.not_lt_zero _)) ?_
     · rw [List.getElem?_map] at h1 h2
       cases hq : (kidsOf Ns [])[i]? with
       | none => rw [hq] at h1; cases h1
       | some e' =>
         rw [hq] at h1 h2
         cases h1
         cases h2
         obtain ⟨y1, y2, _⟩ := kidsOf_mem (List.mem_of_getElem? hq)
         exact ⟨e'.tm, rfl, by rw [HB.mark.2 e' y1 y2]; exact HB.mark.1, fun h => absurd rfl h, rfl⟩
     intro h16 tk16 t16 F16 N16
     walk_at "zs"
     rename Fr _ _ _ _ => F17
     rename News _ _ _ _ => N17
     have N18 : News g _ _ news' := fun p hp => N17 p (.tail _ (by rw [hnwT]; exact .tail _ hp))
     exact leaveS0_ F17 N18 hG.turn fun F18 N19 => h _ _ _ _ _ _ _ _ _ _ _ F18 N19 HB
end
end
section
open PySem.Builtin in
theorem rev_sliced (b : Array UInt8) : Bytes.sliced b ((b.size : Int) - 1) (-1) (-1) = b.toList.reverse.toArray := by
 unfold Bytes.sliced
 rw [krv_sliceRange, krv_range, List.filterMap_reverse]
 congr 2
 have h := pick_run b 0 b.size
 have e : (List.range b.size).map (0 + ·) = List.range b.size := by
   rw [show ((0 + ·) : Nat → Nat) = _root_.id from funext fun k => Nat.zero_add k, List.map_id]
 rw [e, List.drop_zero, List.take_of_length_le (by rw [Array.length_toList]; exact Nat.le_refl _)] at h
 exact h
open PySem.Builtin in
theorem meets_rev (b : Array UInt8) (t u : Tok) (a : Addr) :
   Meets («bytes.__getitem__» ⟨[.bytes b t, .ref a], []⟩) (fun _ R s => s.heap.IsSliceOf a .none .none (.int (-1) u) ∧ b.size ≤ sizeLine ∧ ∀ t' k, R (.ok (.ret (.bytes b.toList.reverse.toArray t'))) { s with toks := k }) := by
 refine .of_wp fun prog w A R s hS => ?_
 obtain ⟨⟨o, ho, hc, hd⟩, hsz, h⟩ := hS
 have hT : s.TypeIs (.ref a) "slice" := ⟨o, ho, hc⟩
 show wpAny _ _ (Bytes.payload (.bytes b t) >>= fun r => _) _ _ s
 refine wpAny_bind (wpAny_of_eq (a := b) rfl ?_)
 show wpAny _ _ (Bytes.subscript? (.ref a) >>= fun r => _) _ _ s
 refine wpAny_bind ?_
 unfold Bytes.subscript?
 refine wpAny_bind (wpAny_specialOf hT slice_no_index (wpAny_pure ?_))
 refine wpAny_bind (wpAny_typeOf hT ?_)
 show wpAny _ _ (Bytes.sliceParts (.ref a) >>= fun r => _) _ _ s
 refine wpAny_bind ?_
 unfold Bytes.sliceParts
 refine wpAny_bind (wpAny_field (x := .int (-1) u) ho hd rfl ?_)
 kby_int
 refine wpAny_ite (KBy.ite_no (show ¬ ((rawInt (-1) == rawInt 0) = true) from by decide) ?_)
 refine wpAny_bind (wpAny_field (x := .none) ho hd rfl ?_)
 kby_none
 refine wpAny_bind (wpAny_field (x := .none) ho hd rfl ?_)
 kby_none
 refine wpAny_pure ?_
 have go : wpAny (model prog w) A.in1 (sliceIndices (rawPart none) (rawPart none) (rawPart (some (-1))) b.size) (fun r s' => r = sliceBounds none none (some (-1)) b.size ∧ s' = s) (fun _ _ => False) s :=
   wpAny_of_eq (sliceIndices_raw none none (some (-1)) b.size (by decide)) ⟨rfl, rfl⟩
 refine wpAny_bind (wpAny_mono go (fun r s' hr => ?_) fun _ _ e => e.elim)
 obtain ⟨hr1, hr2⟩ := hr
 subst hr1 hr2
 rw [krv_bounds]
 dsimp only
 refine wpAny_ite (KBy.ite_no (by simp) ?_)
 rw [rev_sliced]
 exact wpAny_bind (wpAny_mkBytes (wpAny_pure ⟨_, rfl, h _ _⟩) (by simpa using hsz))
section
variable {prog : Program} {w : World} {A : Around} {E : Value → Shared → Prop} {s : Shared} {value slice : PySem.Expr} {b : Array UInt8} {t u : Tok} {h₀ : Heap} {L : Addr} {m : PySem.Str → Option Value} {news : List (Addr × Obj)} {Q : Value → Shared → Prop}
open PySem.Builtin PySem.W.KBc in
theorem rev_K (hF : Fr h₀ L s.heap m) (hN : News h₀ L s.heap news) (hz : b.size ≤ 16777216)
   (h : ∀ h' t' k, Fr h₀ L h' m → News h₀ L h' news → Q (.bytes b.toList.reverse.toArray t') { s with heap := h', toks := k })
   (hs : subscripted slice false (.bytes b t) (.ref s.heap.objs.size) = operate [.ref s.heap.objs.size, .bytes b t] (getItem (.bytes b t) (.ref s.heap.objs.size)) := by with_unfolding_all rfl)
   (ht : ∀ r, letTemporaryGo value (.bytes b t) r = pure () := by intro _; with_unfolding_all rfl) :
   wpAny (model prog w) A (subscriptTail value slice (.bytes b t) (.ref s.heap.objs.size)) Q E { s with heap := s.heap.push { cls := .type "slice", data := .fields #[.none, .none, .int (-1) u] } } :=
 tail_of_ItemOn ⟨"bytes", _, FB.slot_bytes_getitem.lookup, typeIs_bytes _ _ _, getItem_meets (typeIs_bytes _ _ _) (by decide) FB.slot_bytes_getitem FB.entry_bytes_getitem (FB.args_bytes_getitem_2 _ _) (meets_rev b t u _)
   ⟨Heap.IsSliceOf.new _ _ _ _, by rw [sizeLine_eq]; exact hz, fun t' k => h _ _ _ (hF.push _) (News.pushKeep hN _)⟩⟩ hs ht
open PySem.Builtin PySem.W.KBc in
theorem rev_P (hF : Fr h₀ L s.heap m) (hN : News h₀ L s.heap news) (hz : b.size ≤ 16777216)
   (h : ∀ h' t' k pt, pt = b.toList.reverse.toArray → Fr h₀ L h' m → News h₀ L h' news → Q (.bytes pt t') { s with heap := h', toks := k })
   (hs : subscripted slice false (.bytes b t) (.ref s.heap.objs.size) = operate [.ref s.heap.objs.size, .bytes b t] (getItem (.bytes b t) (.ref s.heap.objs.size)) := by with_unfolding_all rfl)
   (ht : ∀ r, letTemporaryGo value (.bytes b t) r = pure () := by intro _; with_unfolding_all rfl) :
   wpAny (model prog w) A (subscriptTail value slice (.bytes b t) (.ref s.heap.objs.size)) Q E { s with heap := s.heap.push { cls := .type "slice", data := .fields #[.none, .none, .int (-1) u] } } :=
 rev_K hF hN hz (fun h' t' k => h h' t' k _ rfl) hs ht
open PySem.Builtin PySem.W.KBc in
theorem slice_P {l u : Value} {lo hi : Option Int} {pk : Array UInt8} (hF : Fr h₀ L s.heap m) (hN : News h₀ L s.heap news) (hl : IsPart l lo) (hu : IsPart u hi) (hz : b.size ≤ 16777216) (e : KBy.picked b lo hi = pk)
   (h : ∀ h' t' k pt, pt = pk → Fr h₀ L h' m → News h₀ L h' news → s.toks ≤ k → Q (.bytes pt t') { s with heap := h', toks := k })
   (hs : subscripted slice false (.bytes b t) (.ref s.heap.objs.size) = operate [.ref s.heap.objs.size, .bytes b t] (getItem (.bytes b t) (.ref s.heap.objs.size)) := by with_unfolding_all rfl)
   (ht : ∀ r, letTemporaryGo value (.bytes b t) r = pure () := by intro _; with_unfolding_all rfl) :
   wpAny (model prog w) A (subscriptTail value slice (.bytes b t) (.ref s.heap.objs.size)) Q E { s with heap := s.heap.push { cls := .type "slice", data := .fields #[l, u, .none] } } := by
 refine wpAny_with_toks (n := s.toks) (Nat.le_refl _) ?_
 exact slice_K hF hN rfl hl hu (by rw [KBw.ints_length]; exact hz) (fun h' t' k F N _ hk => h h' t' k _ e F N hk) hs ht
theorem item_P {iz : Int} {i : Nat} {ui : Tok} (hi : i < b.size) (hz : b.size ≤ 16777216) (e : iz = (i : Int))
   (h : ∀ t' k, s.toks ≤ k → Q (.int ((b.getD i 0).toNat : Nat) t') { s with toks := k })
   (hs : subscripted slice false (.bytes b t) (.int iz ui) = operate [.bytes b t, .int iz ui] (getItem (.bytes b t) (.int iz ui)) := by with_unfolding_all rfl)
   (ht : ∀ r, letTemporaryGo value (.bytes b t) r = pure () := by intro _; with_unfolding_all rfl) :
   wpAny (model prog w) A (subscriptTail value slice (.bytes b t) (.int iz ui)) Q E s := by
 subst e
 refine KBy.item_N (x := b.toList) (by simp; omega) (Int.natCast_nonneg _) (by simpa using hi) ?_ hs ht
 have e : (b.toList.getD ((i : Int)).toNat 0) = b.getD i 0 := by simp [hi]
 rw [e]
 exact h _ _ (Nat.le_succ _)
end
end
section
inductive HZHU : {α : Type} → Sem α → Prop
 | c0 (a1 a2 a3 a4 a5 a6 a7) : HZHU (execs (Stmt.For a1 a2 a3 a4 a5 :: a6) a7)
 | c1 (a1) : HZHU (pyIter a1)
 | c2 (a1 a2 a3 a4 a5 a6 a7 a8) : HZHU (subscriptTail a1 (Expr.Slice a2 a3 a4 a5) (Value.bytes a6 a7) (Value.ref a8))
 | c3 (a1 a2 a3 a4 a5 a6) : HZHU (subscriptTail a1 a2 (Value.bytes a3 a4) (Value.int a5 a6))
 | c4 (a1 a2 a3) : HZHU (getMethod (Value.ref a1) a2 a3)
 | c5 (a1 a2) : HZHU (compareOp CmpOp.NotIn a1 a2)
 | c6 (a1 a2) : HZHU (call (Value.builtin "list.append") a1 a2)
 | c7 (a1 a2 a3) : HZHU (unpackItems a1 a2 a3)
namespace ZHU
theorem hzt {α : Type} {M : Model} {A : Around} {t : Sem α} {Q : α → Shared → Prop} {E : Value → Shared → Prop} {s : Shared} (_ : HZHU t) (h : wpAny M A t Q E s) : wpAny M A t Q E s := h
end ZHU
open ZHU
theorem eqAt_bytes {A : Around} {s : Shared} (b : Array UInt8) (t : Tok) (c : Array UInt8) (u : Tok) : SeqAt.EqAt A s (.bytes b t) (.bytes c u) (b.toList == c.toList) := fun prog w E Q h => by
 unfold eqBool
 refine wpAny_holding ?_
 refine wpAny_ite_split (fun hab => ?_) (fun _ => ?_)
 · have := eq_of_beq hab
   injection this with h1 h2
   rw [h1, beq_self_eq_true] at h
   exact wpAny_bind (wpAny_rule (wpAny_pure h))
 · exact wpAny_bind (eq_bytes (wpAny_truthy_bool h))
noncomputable def SeenIs (S : List (List Nat × Nat)) (sv : List Value) : Prop := sv.length = S.length ∧ ∀ (i : Nat) (q : List Nat × Nat), S[i]? = some q → ∃ x t, sv[i]? = some (.bytes x t) ∧ x.toList.map UInt8.toNat = q.1
noncomputable def DueIs (w : World) (st : List (Addr × Obj)) (S : List (List Nat × Nat)) (dv : List Value) : Prop := dv.length = S.length ∧ ∀ (i : Nat) (q : List Nat × Nat), S[i]? = some q → ∃ T tt z d o tm tv tn, dv[i]? = some (.ref T) ∧ (T, tupO #[Value.str "joint" tt, .ref d] z) ∈ st ∧ (d, o) ∈ st ∧ (d == sysModules) = false ∧
 o.IsDictOf (PySem.strKind PySem.Challenge.rw_wy0029_01.row.prog w) [("mark", .int 7 tm), ("value", .int (q.1.getLast?.getD 0 : Nat) tv), ("name", .int q.2 tn)]
structure HI (w : World) (ss ds : Addr) (rest data : List (Addr × Obj)) (S : List (List Nat × Nat)) (sv dv : List Value) (n k : Nat) (st : List (Addr × Obj)) : Prop where
 sub : ∀ q ∈ st, q ∈ data
 rst : ∀ q ∈ rest, q ∈ st
 seen : (ss, listOf sv.toArray n) ∈ data ∧ SeenIs S sv
 due : (ds, listOf dv.toArray k) ∈ data ∧ DueIs w st S dv
 stap : ∀ q ∈ st, q.1 ≠ ss ∧ q.1 ≠ ds
 ne : ss ≠ ds
theorem SeenIs.snoc {S : List (List Nat × Nat)} {sv : List Value} (h : SeenIs S sv) {x : Array UInt8} {t : Tok} {p : List Nat} {nm : Nat} (hp : x.toList.map UInt8.toNat = p) : SeenIs (S ++ [(p, nm)]) (sv ++ [.bytes x t]) := by
 refine ⟨by simp [h.1], fun i q hq => ?_⟩
 rcases Nat.lt_or_ge i S.length with c | c
 · rw [List.getElem?_append_left c] at hq
   rw [List.getElem?_append_left (by rw [h.1]; exact c)]
   exact h.2 i q hq
 · rw [List.getElem?_append_right c] at hq
   have : i - S.length = 0 := by
     have := (List.getElem?_eq_some_iff.mp hq).1
     simpa using this
   rw [this] at hq
   cases hq
   exact ⟨x, t, by rw [List.getElem?_append_right (by rw [h.1]; exact c), h.1, this]; rfl, hp⟩
theorem DueIs.snoc {w : World} {st st' : List (Addr × Obj)} {S : List (List Nat × Nat)} {dv : List Value} (h : DueIs w st S dv) (hst : ∀ q ∈ st, q ∈ st') {p : List Nat} {nm : Nat} {T d : Addr} {tt tm tv tn : Tok} {z : Nat} {o : Obj}
   (h1 : (T, tupO #[Value.str "joint" tt, .ref d] z) ∈ st') (h2 : (d, o) ∈ st') (h3 : (d == sysModules) = false)
   (h4 : o.IsDictOf (PySem.strKind PySem.Challenge.rw_wy0029_01.row.prog w) [("mark", .int 7 tm), ("value", .int (p.getLast?.getD 0 : Nat) tv), ("name", .int nm tn)]) : DueIs w st' (S ++ [(p, nm)]) (dv ++ [.ref T]) := by
 refine ⟨by simp [h.1], fun i q hq => ?_⟩
 rcases Nat.lt_or_ge i S.length with c | c
 · rw [List.getElem?_append_left c] at hq
   rw [List.getElem?_append_left (by rw [h.1]; exact c)]
   refine x8a4 (h.2 i q hq) ?_; rintro T' tt' z' d' o' tm' tv' tn' k1 k2 k3 k4
   exact ⟨T', tt', z', d', o', tm', tv', tn', k1, hst _ k2, hst _ k3, k4⟩
 · rw [List.getElem?_append_right c] at hq
   have : i - S.length = 0 := by
     have := (List.getElem?_eq_some_iff.mp hq).1
     simpa using this
   rw [this] at hq
   cases hq
   exact ⟨T, tt, z, d, o, tm, tv, tn, by rw [List.getElem?_append_right (by rw [h.1]; exact c), h.1, this]; rfl, h1, h2, h3, h4⟩
theorem HI.add {w : World} {ss ds : Addr} {rest data data' : List (Addr × Obj)} {S : List (List Nat × Nat)} {sv dv : List Value} {n k n' k' : Nat} {st : List (Addr × Obj)} (H : HI w ss ds rest data S sv dv n k st) {x : Array UInt8} {tx : Tok} {p : List Nat} {nm : Nat} {T d : Addr} {tt tm tv tn : Tok} {z : Nat} {o : Obj}
   (hp : x.toList.map UInt8.toNat = p) (h1 : (ss, listOf (sv ++ [Value.bytes x tx]).toArray n') ∈ data') (h2 : (ds, listOf (dv ++ [Value.ref T]).toArray k') ∈ data') (hT : (T, tupO #[Value.str "joint" tt, .ref d] z) ∈ data') (hd : (d, o) ∈ data') (hs : (d == sysModules) = false)
   {vx nx : Int} (hdo : o.IsDictOf (PySem.strKind PySem.Challenge.rw_wy0029_01.row.prog w) [("mark", .int 7 tm), ("value", .int vx tv), ("name", .int nx tn)]) (ex : vx = (p.getLast?.getD 0 : Nat)) (ey : nx = nm) (hk : ∀ q ∈ st, q ∈ data') (aT : T ≠ ss ∧ T ≠ ds) (ad : d ≠ ss ∧ d ≠ ds) :
   HI w ss ds rest data' (S ++ [(p, nm)]) (sv ++ [.bytes x tx]) (dv ++ [.ref T]) n' k' ((T, tupO #[Value.str "joint" tt, .ref d] z) :: (d, o) :: st) := by
 subst ex ey
 refine ⟨fun q hq => ?_, fun q hq => .tail _ (.tail _ (H.rst q hq)), ⟨h1, H.seen.2.snoc hp⟩, ⟨h2, H.due.2.snoc (fun q hq => .tail _ (.tail _ hq)) (.head _) (.tail _ (.head _)) hs hdo⟩, fun q hq => ?_, H.ne⟩
 · rcases List.mem_cons.mp hq with rfl | hq
   · exact hT
   · rcases List.mem_cons.mp hq with rfl | hq
     · exact hd
     · exact hk q hq
 · rcases List.mem_cons.mp hq with rfl | hq
   · exact aT
   · rcases List.mem_cons.mp hq with rfl | hq
     · exact ad
     · exact H.stap q hq
noncomputable def bytesAre (x : Array UInt8) : Value → Bool
 | .bytes y _ => y.toList == x.toList
 | _ => false
theorem toNat_inj {x y : List UInt8} (h : x.map UInt8.toNat = y.map UInt8.toNat) : x = y := by
 induction x generalizing y with
 | nil => cases y with
   | nil => rfl
   | cons b r => simp at h
 | cons a l ih => cases y with
   | nil => simp at h
   | cons b r =>
     simp only [List.map_cons, List.cons.injEq] at h
     rw [ih h.2, UInt8.toNat_inj.mp h.1]
theorem notIn_seen {prog : Program} {w : World} {A : Around} {h₀ : Heap} {L l : Addr} {led : List (Addr × Obj)} {s : Shared} {E : Value → Shared → Prop} {Q : Value → Shared → Prop} {S : List (List Nat × Nat)} {sv : List Value} {n : Nat} {x : Array UInt8} {t : Tok} {p : List Nat} (N : News h₀ L s.heap led) (hm : (l, listOf sv.toArray n) ∈ led) (hS : SeenIs S sv) (hp : x.toList.map UInt8.toNat = p)
   (h1 : p ∈ S.map Prod.fst → Q (.bool false) s) (h2 : p ∉ S.map Prod.fst → Q (.bool true) s) : wpAny (model prog w) A (compareOp CmpOp.NotIn (.bytes x t) (.ref l)) Q E s := by
 have al : ∀ y ∈ sv, ∃ b u, y = .bytes b u ∧ b.toList.map UInt8.toNat ∈ S.map Prod.fst := fun y hy => by
   obtain ⟨i, hi, rfl⟩ := List.getElem_of_mem hy
   have hi' : i < S.length := by rw [← hS.1]; exact hi
   refine x2a2 (hS.2 i S[i] (List.getElem?_eq_getElem hi')) ?_; rintro b u k1 k2
   rw [List.getElem?_eq_getElem hi] at k1
   exact ⟨b, u, Option.some.inj k1, by rw [k2]; exact List.mem_map.mpr ⟨_, List.getElem_mem hi', rfl⟩⟩
 refine SeqAt.notIn_listAt (bytesAre x) (News.isList N hm) (fun y hy => ?_) ?_
 · refine x2a2 (al y (by simpa using hy)) ?_; rintro b u rfl _
   exact eqAt_bytes b u x t
 · by_cases hin : p ∈ S.map Prod.fst
   · have : sv.toArray.any (bytesAre x) = true := by
       rw [List.any_toArray, List.any_eq_true]
       obtain ⟨q, hq, e⟩ := List.mem_map.mp hin
       obtain ⟨i, hi, rfl⟩ := List.getElem_of_mem hq
       refine x2a2 (hS.2 i S[i] (List.getElem?_eq_getElem hi)) ?_; rintro b u k1 k2
       exact ⟨_, List.mem_of_getElem? k1, by rw [bytesAre, toNat_inj (k2.trans (e.trans hp.symm))]; exact beq_self_eq_true _⟩
     rw [this]; exact h1 hin
   · have : sv.toArray.any (bytesAre x) = false := by
       rw [List.any_toArray, List.any_eq_false]
       intro y hy
       refine x2a2 (al y hy) ?_; rintro b u rfl k
       intro hb
       have hb' : b.toList = x.toList := eq_of_beq hb
       rw [hb', hp] at k
       exact hin k
     rw [this]; exact h2 hin
theorem lt_upd {l D : Nat} {Z : List (Addr × Obj)} (h : l < D ∧ AllLt D (Z.filter fun q => decide (@Ne Nat q.1 l))) : ∀ p ∈ Z, @LT.lt Nat _ p.1 D := fun p hp => by
 by_cases e : @Eq Nat p.1 l
 · rw [e]; exact h.1
 · exact AllLt.mem h.2 p (List.mem_filter.mpr ⟨hp, decide_eq_true e⟩)
theorem fdiv3 (i : Nat) : ((0 : Int) + i * 3).fdiv 3 = i := by rw [Int.zero_add]; exact Int.mul_fdiv_cancel _ (by decide)
theorem last_take {pt c : Array UInt8} {i d : Nat} (hpm : pt.toList.map UInt8.toNat = ptOf c i) (hpz : pt.size = 3) (hd : d < 3) : (pt.getD d 0).toNat = ((ptOf c i).take (d + 1)).getLast?.getD 0 := by
 rw [← hpm]
 obtain ⟨l⟩ := pt
 have hl : d < l.length := by rw [show l.length = 3 from hpz]; exact hd
 rw [List.take_add_one, List.getLast?_append, List.getElem?_map, List.getElem?_eq_getElem hl]
 simp [Array.getD, hl]
theorem DueIs.more {w : World} {st st' : List (Addr × Obj)} {S : List (List Nat × Nat)} {dv : List Value} (h : DueIs w st S dv) (hst : ∀ q ∈ st, q ∈ st') : DueIs w st' S dv :=
 ⟨h.1, fun i q hq => x8a4 (h.2 i q hq) fun T tt z d o tm tv tn k1 k2 k3 k4 => ⟨T, tt, z, d, o, tm, tv, tn, k1, hst _ k2, hst _ k3, k4⟩⟩
theorem picked_take {b : Array UInt8} {k : Nat} (h : k ≤ b.size) : KBy.picked b none (some (k : Int)) = (b.toList.take k).toArray := by
 rw [KBc.picked_eq]
 simp only [Option.elim, clipAt_nat, List.drop_zero, Nat.sub_zero]
 rw [Nat.min_eq_left h]
theorem head_of {g h : Heap} {L : Addr} {p : Addr × Obj} {r : List (Addr × Obj)} (_ : News g L h (p :: r)) : ∃ q, q = p := ⟨p, rfl⟩
inductive IH1 (w : World) (ss ds : Addr) (rest : List (Addr × Obj)) (S : List (List Nat × Nat)) (b : Array UInt8) (tb : Tok) (m : Str → Option Value) (data : List (Addr × Obj)) : Prop
 | mk (sv dv : List Value) (n k : Nat) (st : List (Addr × Obj)) (HB : HI w ss ds rest data S sv dv n k st) (e1 : m "octets" = some (.bytes b tb)) (e2 : m "seen" = some (.ref ss)) (e3 : m "due" = some (.ref ds))
inductive IH2 (w : World) (ss ds : Addr) (rest : List (Addr × Obj)) (S : List (List Nat × Nat)) (b : Array UInt8) (tb : Tok) (tq : Addr × Obj) (I : Addr) (o₁ : List (Addr × Obj)) (i : Nat) (tv : Tok) (pt : Array UInt8) (t8 : Tok) (m : Str → Option Value) (data2 : List (Addr × Obj)) : Prop
 | mk (hneed : tq ∈ data2) (data' : List (Addr × Obj)) (hsub : ∀ p ∈ o₁ ++ data', p ∈ data2) (hoff : ∀ p ∈ data', p.1 ∉ [I]) (sv dv : List Value) (n k : Nat) (st : List (Addr × Obj)) (HB : HI w ss ds rest data' S sv dv n k st) (e1 : m "octets" = some (.bytes b tb)) (e2 : m "seen" = some (.ref ss)) (e3 : m "due" = some (.ref ds)) (e4 : m "first" = some (.int ((0 : Int) + i * 3) tv)) (e5 : m "point" = some (.bytes pt t8))
section
variable {w : World} {A : Around} {h₀ : Heap} {L : Addr} {m : Str → Option Value} {rest : List (Addr × Obj)} {s : Shared} {E : Value → Shared → Prop} {Q : Value → Shared → Prop}
set_option maxHeartbeats 4000000 in
theorem hung_ok {b : Array UInt8} {tb : Tok} (C : Cx w 310 A L h₀) (hh : A.handled = none) (F : Fr h₀ L s.heap m) (N : News h₀ L s.heap rest) {c : Array UInt8} (hbs : b.size = 15) (hc : ∀ i, i < 5 → ptOf c i = (ptOf b i).reverse)
   (h : ∀ h' tk ds dv k led, Fr h₀ L h' m → News h₀ L h' led → (∀ q ∈ rest, q ∈ led) → (ds, listOf dv.toArray k) ∈ led → DueIs w led (growN c 5) dv → Q (.ref ds) { s with heap := h', toks := tk }) :
   wpAny (model PySem.Challenge.rw_wy0029_01.row.prog w) A (call (.ref 121) [.bytes b tb]) Q E s := by
 (((rename Cx _ _ _ _ _ => c0z); (obtain ⟨hdz, huz, hAz, hfz, hkz, Bz, Xz, CT1z, CT2z, Tz⟩ := c0z); (refine lift_around hdz huz hAz ?_); (try refine wpAny_noRaise ?_); (have q0z : (PySem.Challenge.rw_wy0029_01, fun P => (Mine.hd.heap_1 P).length) = (PySem.Challenge.rw_wy0029_01, fun P => (Mine.hd.heap_1 P).length) := by k_fill; rfl); clear q0z); (refine wpAny_call ?_); (refine' code_def ?k1 ?k2 ?k3 ?k4 ?k5 ?kA ?kF ?kK ?k6 ?k7 ?k8 ?k9 ?kB ?_ ?c2 ?c3 ?c4 ?c5; (case kA => exact rfl); (case kF => first | assumption | exact rfl); (case kK => first | assumption | exact rfl); (case k1 => k_asm); (case k2 => k_asm); (case k3 => k_asm); (case k4 => k_asm); (case k5 => k_asm); (case k6 => k_is); (case k7 => k_is); (case k8 => k_room); (case k9 => first | exact BindsTo.of_eq rfl | exact binds_K (by k_in) rfl (by k_is) rfl rfl rfl | (refine' kp_binds ?kx ?ke; (case kx => k_in); (case ke => exact fun _ => rfl))); (case c5 => decide); (case kB => exact locs rfl); (case c2 => exact rfl); (case c3 => exact rfl); (case c4 => exact rfl); k_whole; intro gz' Lz' hz' FGz' Fz' Nz' Bz' Xz' Tz'; (have c1z' := CodeHd.keeps (c := 125) (P := 123) (by assumption) (Fr.keep FGz')); (have c2z' := CodeHd.keeps (c := 108) (P := 104) (by assumption) (Fr.keep FGz')); (try dsimp only); (try k_lift Bz'); (try k_fold)); (refine wpAny_noRaise ?_))
 (refine wpAny_execs_cons (blind ?_)); intro Q' hQ'
 refine Assign_Tuple_swapped (names := ["seen", "due"]) ?_
 walk_at "zs"
 rename News _ _ _ _ => N1
 refine unpackItemsN_ (by assumption) N1 ⟨_, (N1 _ (.head _)).1, rfl, _, rfl⟩ hh rfl ?_
 intro h2 F2 N2
 walk_at "zs"
 rename (∀ p ∈ rest, _) => hl0
 rename (@LT.lt Nat _ _ _ ∧ AllLt _ rest) => hl1
 rename_i ss _ ds _ _ _ _ _ _ _ _
 (with_reducible refine wpAny_execs_cons (blind ?_)); intro _ _; refine wpAny_For ?_
 walk_at "zs"
 rename IsRange _ _ _ _ _ _ _ _ => hR
 rename Fr _ _ _ _ => F3
 rename News _ _ _ _ => N3
 refine zrange (n := 5) hh F3 N3 hR (by decide) (by decide) ?_
 intro I o O h4 SR hO hoff hown F4 N4
 clear hR F3 N3
 refine zforR (SR _ _) (fun i m data => IH1 w ss ds rest (growN c i) b tb m data) (fun _ _ _ _ _ hp => nomatch hp) F4 N4 hO hoff
   ⟨[], [], 0, 0, rest, ⟨fun q hq => .tail _ (.tail _ (.tail _ hq)), fun q hq => hq, ⟨.tail _ (.tail _ (.head _)), rfl, fun _ _ h => nomatch h⟩, ⟨.tail _ (.head _), rfl, fun _ _ h => nomatch h⟩, fun q hq => ⟨Nat.ne_of_lt (hl0 q hq), Nat.ne_of_lt (AllLt.mem hl1.2 q hq)⟩, Nat.ne_of_lt hl1.1⟩, by walk_at "zlook", by walk_at "zlook", by walk_at "zlook"⟩ ?_ ?_
 · clear F4 N4 hO hoff
   intro J' R' σ hJJ i tv o₁ m₁ data h₁ tk₁ hi HJ hO₁ ho₁ hn₁ F5 N5
   ((refine opq ?_); intro G' hG')
   obtain ⟨sv, dv, n, k, st, HB, e1, e2, e3⟩ := HJ
   ((with_reducible rename Opq _ _ => hG'); (refine hG' ?_); clear hG'; (try dsimp only))
   walk_at "zs"
   rename Fr _ _ _ _ => F6
   rename News _ _ _ _ => N6
   refine slice_P (s := ⟨_, _, _, _, _⟩) F6 N6 (by constructor) (by constructor) (by rw [hbs]; exact Nat.le_of_ble_eq_true rfl) (picked3 (np := 5) hbs hi) ?_
   intro h7 t7 k7 p3 hp3 F7 N7 _
   clear F6 N6
   walk_at "zs"
   refine rev_P (s := ⟨_, _, _, _, _⟩) F7 N7 (by rw [hp3]; exact Nat.le_of_ble_eq_true rfl) ?_
   intro h8 t8 k8 pt hpt F8 N8
   rw [hp3] at hpt
   clear F7 N7 hp3
   walk_at "zs"
   (with_reducible refine wpAny_execs_cons (blind ?_)); intro _ _; refine wpAny_For ?_
   walk_at "zs"
   rename Fr _ _ _ _ => F9
   rename News _ _ _ _ => N9
   rename (∀ p ∈ [] ++ (o₁ ++ data), _) => hl9
   obtain ⟨tq, etq⟩ := head_of N9
   refine ztuple hh F9 N9 (.head _) ?_
   intro I2 o2 O2 h10 SR2 hO2 hoff2 hown2 F10 N10
   clear F9 N9
   have hpm : pt.toList.map UInt8.toNat = ptOf c i := by
     rw [hc i hi, hpt]; rfl
   have hpz : pt.size = 3 := by rw [hpt]; rfl
   obtain ⟨aI, hI1, hI2⟩ : ∃ ob, (I, ob) ∈ o₁ ∧ True := by
     obtain ⟨ob, h⟩ := (SR "" default).live _ _ hO₁ I (.head _)
     exact ⟨ob, h, trivial⟩
   have hD1 := hl9 _ (List.mem_append_right _ (List.mem_append_right _ HB.seen.1))
   have hD2 := hl9 _ (List.mem_append_right _ (List.mem_append_right _ HB.due.1))
   refine zforL (SR2 _ _) (fun d m data2 => IH2 w ss ds rest (growK (growN c i) (ptOf c i) i d) b tb tq I o₁ i tv pt t8 m data2) (fun _ _ _ hj p hp => by obtain ⟨hn, _⟩ := hj; rw [List.mem_singleton.mp hp, ← etq]; exact hn) F10 N10 hO2 hoff2
     ⟨etq ▸ .head _, data, fun p hp => .tail _ hp, hn₁, sv, dv, n, k, st, HB, by walk_at "zlook", by walk_at "zlook", by walk_at "zlook", by walk_at "zlook", by walk_at "zlook"⟩ ?_ ?_
   · clear F10 N10 hO2 hoff2 HB e1 e2 e3
     intro J2 R2 σ2 hJJ2 d v o₃ m₂ data2 h₂ tk₂ hd HJ hv hO₃ ho₃ hn₂ F11 N11
     ((refine opq ?_); intro G' hG')
     obtain ⟨hneed, data', hsub, hoffI, sv, dv, n, k, st, HB, e1, e2, e3, e4, e5⟩ := HJ
     ((with_reducible rename Opq _ _ => hG'); (refine hG' ?_); clear hG'; (try dsimp only))
     obtain ⟨tv2, rfl⟩ : ∃ t, v = .int ((d + 1 : Nat) : Int) t := by
       rcases two (Nat.le_of_lt_succ hd) with rfl | rfl | rfl <;> exact ⟨_, (Option.some.inj hv).symm⟩
     have hd3 : d < 3 := hd
     have hpk : KBy.picked pt none (some ((d + 1 : Nat) : Int)) = (pt.toList.take (d + 1)).toArray := picked_take (by rw [hpz]; exact hd)
     have hpp : ((pt.toList.take (d + 1)).toArray).toList.map UInt8.toNat = (ptOf c i).take (d + 1) := by
       rw [List.map_take, hpm]
     walk_at "zs"
     rename Fr _ _ _ _ => F12
     rename News _ _ _ _ => N12
     refine slice_P (s := ⟨_, _, _, _, _⟩) F12 N12 (by constructor) (by constructor) (by rw [hpz]; exact Nat.le_of_ble_eq_true rfl) hpk ?_
     intro h13 t13 k13 p1 hp1 F13 N13 _
     rw [← hp1] at hpp
     clear F12 N12
     walk_at "zs"
     have inl : ∀ p ∈ data', p ∈ [] ++ (o₃ ++ data2) := fun p hp => List.mem_append_right _ (List.mem_append_right _ (hsub p (List.mem_append_right _ hp)))
     refine notIn_seen N13 (inl _ HB.seen.1) HB.seen.2 hpp (fun hin => ?_) fun hin => ?_
     · walk_at "zs"
       (try dsimp only [ZTurn])
       rename Fr _ _ _ _ => F14
       rename News _ _ _ _ => N14
       refine ZNext.intro F14 N14 hn₂ (hJJ2 _ _ _ ⟨hneed, data', hsub, hoffI, sv, dv, n, k, st, ?_, by walk_at "zlook", by walk_at "zlook", by walk_at "zlook", by walk_at "zlook", by walk_at "zlook"⟩)
       rw [growK_succ]
       unfold grow1
       rw [if_pos hin]
       exact HB
     · walk_at "zs"
       refine PySem.Calls.getMethod_list_append (N13 _ (inl _ HB.seen.1)).1 rfl rfl ?_
       walk_at "zs"
       rename Fr _ _ _ _ => F14
       rename News _ _ _ _ => N14
       refine slice_P (s := ⟨_, _, _, _, _⟩) F14 N14 (by constructor) (by constructor) (by rw [hpz]; exact Nat.le_of_ble_eq_true rfl) hpk ?_
       intro h15 t15 k15 p2 hp2 F15 N15 _
       rw [← hp1] at hp2
       obtain rfl := hp2
       clear F14 N14
       walk_at "zs"
       have hlen1 := growK_len (growN c i) (ptOf c i) i d
       have hlen2 := growN_len c i
       refine append_led F15 N15 (inl _ HB.seen.1) (by rw [HB.seen.2.1]; omega) ?_
       intro h16 F16 N16
       clear F15 N15
       walk_at "zs"
       refine PySem.Calls.getMethod_list_append (N16 _ (upd_keep (inl _ HB.due.1) (Ne.symm HB.ne))).1 rfl rfl ?_
       refine callWith_tup ?_
       walk_at "zs"
       refine item_P (i := d) (by rw [hpz]; exact hd) (by rw [hpz]; exact Nat.le_of_ble_eq_true rfl) (by omega) ?_
       intro t17 k17 _
       walk_at "zs"
       rename Fr _ _ _ _ => F18
       rename News _ _ _ _ => N18
       rename Obj.IsDictOf _ _ _ => hdo
       rename (@LT.lt Nat _ _ _ ∧ AllLt _ _) => hl17
       rename (@LT.lt Nat _ _ _ ∧ _ ∧ AllLt _ _) => hl18
       refine append_led F18 N18 (.tail _ (.tail _ (upd_keep (inl _ HB.due.1) (Ne.symm HB.ne)))) (by rw [HB.due.2.1]; omega) ?_
       intro h19 F19 N19
       clear F18 N18
       walk_at "zs"
       (try dsimp only [ZTurn])
       obtain ⟨full, hfull, N20⟩ : ∃ Z, Z = _ ∧ News _ _ _ Z := ⟨_, rfl, N19⟩
       clear N19
       have big := lt_upd hl17
       have hdT := hl18.1
       have mI : (I, aI) ∈ [] ++ (o₃ ++ data2) := List.mem_append_right _ (List.mem_append_right _ (hsub _ (List.mem_append_left _ hI1)))
       obtain ⟨ob2, m2⟩ := (SR2 "" default).live _ _ hO₃ I2 (.head _)
       have mI2 : (I2, ob2) ∈ [] ++ (o₃ ++ data2) := List.mem_append_right _ (List.mem_append_left _ m2)
       have nI : ∀ q ∈ data', q.1 ≠ I := fun q hq e => hoffI q hq (by rw [e]; exact .head _)
       have nI2 : ∀ q ∈ data2, q.1 ≠ I2 := fun q hq e => hn₂ q hq (by rw [e]; exact .head _)
       have nI3 : ∀ q ∈ data', q.1 ≠ I2 := fun q hq => nI2 q (hsub q (List.mem_append_right _ hq))
       have inF : ∀ q ∈ full, q.1 ≠ I2 → q.1 ≠ I → q ∈ (full.filter fun p => decide (p.1 ∉ [I2])).filter fun p => decide (p.1 ∉ [I]) := fun q hq k1 k2 => List.mem_filter.mpr ⟨List.mem_filter.mpr ⟨hq, decide_eq_true fun h => k1 (List.mem_singleton.mp h)⟩, decide_eq_true fun h => k2 (List.mem_singleton.mp h)⟩
       have keepF : ∀ q ∈ o₃ ++ data2, q.1 ≠ _ → q.1 ≠ _ → q ∈ full := fun q hq k1 k2 => by rw [hfull]; exact upd_keep (.tail _ (.tail _ (upd_keep (List.mem_append_right _ hq) k1))) k2
       have lSS := big _ (inl _ HB.seen.1)
       have lDS := big _ (inl _ HB.due.1)
       have hgr : growK (growN c i) (ptOf c i) i (d + 1) = growK (growN c i) (ptOf c i) i d ++ [((ptOf c i).take (d + 1), i)] := by
         rw [growK_succ]; exact if_neg hin
       have a1 := nI3 _ HB.seen.1
       have a2 := nI _ HB.seen.1
       have a3 := nI3 _ HB.due.1
       have a4 := nI _ HB.due.1
       have HB2 := HB.add (nm := i) hpp (inF _ (by rw [hfull]; exact upd_keep (.tail _ (.tail _ (.head _))) HB.ne) a1 a2) (inF _ (by rw [hfull]; exact .head _) a3 a4)
         (inF _ (by rw [hfull]; exact upd_keep (.head _) (Nat.ne_of_gt (Nat.lt_trans lDS hdT))) (Nat.ne_of_gt (Nat.lt_trans (big _ mI2) hdT)) (Nat.ne_of_gt (Nat.lt_trans (big _ mI) hdT)))
         (inF _ (by rw [hfull]; exact upd_keep (.tail _ (.head _)) (Nat.ne_of_gt lDS)) (Nat.ne_of_gt (big _ mI2)) (Nat.ne_of_gt (big _ mI))) (by assumption) hdo (by rw [last_take hpm hpz hd]) (fdiv3 i)
         (fun q hq => inF q (keepF q (List.mem_append_right _ (hsub q (List.mem_append_right _ (HB.sub q hq)))) (HB.stap q hq).1 (HB.stap q hq).2) (nI3 q (HB.sub q hq)) (nI q (HB.sub q hq)))
         ⟨Nat.ne_of_gt (Nat.lt_trans lSS hdT), Nat.ne_of_gt (Nat.lt_trans lDS hdT)⟩ ⟨Nat.ne_of_gt lSS, Nat.ne_of_gt lDS⟩
       rw [← hgr] at HB2
       refine ZNext.intro (news₂ := full.filter fun p => decide (p.1 ∉ [I2])) F19 (fun p hp => N20 p ?_) (fun p hp => of_decide_eq_true (List.mem_filter.mp hp).2)
         (hJJ2 _ _ _ ⟨List.mem_filter.mpr ⟨keepF _ (List.mem_append_right _ hneed) (by rw [etq]; exact Nat.ne_of_gt hD1) (by rw [etq]; exact Nat.ne_of_gt hD2), decide_eq_true (hn₂ _ hneed)⟩, _, fun p hp => ?_, fun p hp => of_decide_eq_true (List.mem_filter.mp hp).2, _, _, _, _, _, HB2, by walk_at "zlook", by walk_at "zlook", by walk_at "zlook", by walk_at "zlook", by walk_at "zlook"⟩)
       · rcases List.mem_append.mp hp with hp | hp
         · have e := List.mem_singleton.mp (ho₃ p hp)
           exact keepF p (List.mem_append_left _ hp) (by rw [e]; exact Ne.symm (nI3 _ HB.seen.1)) (by rw [e]; exact Ne.symm (nI3 _ HB.due.1))
         · exact (List.mem_filter.mp hp).1
       · rcases List.mem_append.mp hp with hp | hp
         · have e := List.mem_singleton.mp (ho₁ p hp)
           have hp2 := hsub p (List.mem_append_left _ hp)
           exact List.mem_filter.mpr ⟨keepF p (List.mem_append_right _ hp2) (by rw [e]; exact Ne.symm (nI _ HB.seen.1)) (by rw [e]; exact Ne.symm (nI _ HB.due.1)), decide_eq_true (hn₂ p hp2)⟩
         · exact (List.mem_filter.mp hp).1
   · clear F10 N10 hO2 hoff2 HB e1 e2 e3
     intro h' tk m' news' F11 N11 H
     ((refine opq ?_); intro G' hG')
     obtain ⟨hneed, data', hsub, hoffI, sv, dv, n, k, st, HB, e1, e2, e3, e4, e5⟩ := H
     ((with_reducible rename Opq _ _ => hG'); (refine hG' ?_); clear hG'; (try dsimp only))
     walk_at "zs"
     (try dsimp only [ZTurn])
     exact ZNext.intro (news₂ := data') F11 (fun p hp => N11 p (hsub p hp)) hoffI (hJJ _ _ _ ⟨sv, dv, n, k, st, by rw [growN_succ]; exact HB, e1, e2, e3⟩)
 · clear F4 N4 hO hoff
   intro h' tk m' news' F5 N5 H
   obtain ⟨sv, dv, n, k, st, HB, e1, e2, e3⟩ := H
   walk_at "zs"
   exact h _ _ _ _ _ _ (by assumption) (by assumption) (fun q hq => HB.sub q (HB.rst q hq)) HB.due.1 (HB.due.2.more HB.sub)
end
end
section
theorem growN_names (b : Array UInt8) (n : Nat) : (growN b n).Pairwise (fun x y => x.2 ≤ y.2) ∧ ∀ q ∈ growN b n, q.2 < n := by
 have one : ∀ (S : List (List Nat × Nat)) (p : List Nat) (nm : Nat), S.Pairwise (fun x y => x.2 ≤ y.2) → (∀ q ∈ S, q.2 ≤ nm) → (grow1 S p nm).Pairwise (fun x y => x.2 ≤ y.2) ∧ ∀ q ∈ grow1 S p nm, q.2 ≤ nm := fun S p nm h1 h2 => by
   unfold grow1
   split
   · exact ⟨h1, h2⟩
   · refine ⟨List.pairwise_append.mpr ⟨h1, List.pairwise_singleton _ _, fun a ha c hc => ?_⟩, fun q hq => ?_⟩
     · rw [List.mem_singleton.mp hc]; exact h2 a ha
     · rcases List.mem_append.mp hq with hq | hq
       · exact h2 q hq
       · rw [List.mem_singleton.mp hq]; exact Nat.le_refl _
 have many : ∀ (S : List (List Nat × Nat)) (pt : List Nat) (nm k : Nat), S.Pairwise (fun x y => x.2 ≤ y.2) → (∀ q ∈ S, q.2 ≤ nm) → (growK S pt nm k).Pairwise (fun x y => x.2 ≤ y.2) ∧ ∀ q ∈ growK S pt nm k, q.2 ≤ nm := fun S pt nm k h1 h2 => by
   induction k with
   | zero => exact ⟨h1, h2⟩
   | succ k ih => rw [growK_succ]; exact one _ _ _ ih.1 ih.2
 induction n with
 | zero => exact ⟨.nil, fun _ h => nomatch h⟩
 | succ n ih =>
   rw [growN_succ]
   obtain ⟨h1, h2⟩ := many (growN b n) (ptOf b n) n 3 ih.1 fun q hq => Nat.le_of_lt (ih.2 q hq)
   exact ⟨h1, fun q hq => Nat.lt_succ_of_le (h2 q hq)⟩
theorem nd_names {b : Array UInt8} {n : Nat} {Ns : List Nd} (h : tellOf Ns = ([], 0) :: growN b n) : Ns.Pairwise (fun x y => x.nm ≤ y.nm) := by
 have : (tellOf Ns).Pairwise (fun x y => x.2 ≤ y.2) := by
   rw [h]
   exact List.pairwise_cons.mpr ⟨fun _ _ => Nat.zero_le _, (growN_names b n).1⟩
 unfold tellOf at this
 rw [List.pairwise_map] at this
 exact this
theorem kids_names {b : Array UInt8} {n : Nat} {Ns : List Nd} (h : tellOf Ns = ([], 0) :: growN b n) (p : List Nat) : (kidsOf Ns p).Pairwise (fun x y => x.nm ≤ y.nm) := (nd_names h).sublist List.filter_sublist
noncomputable def Stab {α : Type} (κ : α → Int) (r : α → α → Prop) (es : List α) : Prop := es.Pairwise fun a b => κ a < κ b ∨ (κ a = κ b ∧ r a b)
theorem Stab.rises {α : Type} {κ : α → Int} {r : α → α → Prop} {es : List α} (h : Stab κ r es) : Rises (es.map κ) := fun i j ki kj hij hi hj => by
 rw [List.getElem?_map] at hi hj
 obtain ⟨a, ha, rfl⟩ := Option.map_eq_some_iff.mp hi
 obtain ⟨b, hb, rfl⟩ := Option.map_eq_some_iff.mp hj
 rcases Nat.lt_or_ge i j with q | q
 · obtain ⟨h1, e1⟩ := List.getElem?_eq_some_iff.mp ha
   obtain ⟨h2, e2⟩ := List.getElem?_eq_some_iff.mp hb
   have := List.pairwise_iff_getElem.mp h i j h1 h2 q
   rw [e1, e2] at this
   rcases this with h | ⟨h, _⟩ <;> omega
 · obtain rfl : i = j := Nat.le_antisymm hij q
   rw [ha] at hb
   cases hb
   exact Int.le_refl _
theorem Stab.ins {α : Type} {κ : α → Int} {r : α → α → Prop} {es : List α} (h : Stab κ r es) {x : α} {n : Nat} (h1 : ∀ a ∈ es.take n, κ a < κ x ∨ (κ a = κ x ∧ r a x)) (h2 : ∀ a ∈ es.drop n, κ x < κ a ∨ (κ x = κ a ∧ r x a)) : Stab κ r (es.take n ++ x :: es.drop n) := by
 have hh : (es.take n ++ es.drop n).Pairwise fun a b => κ a < κ b ∨ (κ a = κ b ∧ r a b) := by rw [List.take_append_drop]; exact h
 obtain ⟨p1, p2, p3⟩ := List.pairwise_append.mp hh
 refine List.pairwise_append.mpr ⟨p1, List.pairwise_cons.mpr ⟨h2, p2⟩, fun a ha c hc => ?_⟩
 rcases List.mem_cons.mp hc with rfl | hc
 · exact h1 a ha
 · exact p3 a ha c hc
theorem mem_take_idx {α : Type} {es : List α} {n : Nat} {a : α} (h : a ∈ es.take n) : ∃ i : Nat, i < n ∧ es[i]? = some a := by
 obtain ⟨i, hi⟩ := List.getElem?_of_mem h
 rw [List.getElem?_take] at hi
 split at hi
 · exact ⟨i, by assumption, hi⟩
 · cases hi
theorem mem_drop_idx {α : Type} {es : List α} {n : Nat} {a : α} (h : a ∈ es.drop n) : ∃ i : Nat, n ≤ i ∧ es[i]? = some a := by
 obtain ⟨i, hi⟩ := List.getElem?_of_mem h
 rw [List.getElem?_drop] at hi
 exact ⟨n + i, Nat.le_add_right _ _, hi⟩
theorem key_at {α : Type} {κ : α → Int} {es : List α} {i : Nat} {a : α} (h : es[i]? = some a) : (es.map κ)[i]? = some (κ a) := by rw [List.getElem?_map, h]; rfl
theorem Stab.insR {α : Type} {κ : α → Int} {r : α → α → Prop} {es : List α} (h : Stab κ r es) {x : α} {n : Nat} (hn : ∀ (i : Nat) (k : Int), (es.map κ)[i]? = some k → (i < n ↔ k ≤ κ x)) (hr : ∀ a ∈ es, r a x) : Stab κ r (es.take n ++ x :: es.drop n) := by
 refine h.ins (fun a ha => ?_) fun a ha => ?_
 · obtain ⟨i, hi, e⟩ := mem_take_idx ha
   have := (hn i _ (key_at e)).mp hi
   rcases Int.lt_or_eq_of_le this with q | q
   · exact .inl q
   · exact .inr ⟨q, hr a (List.mem_of_mem_take ha)⟩
 · obtain ⟨i, hi, e⟩ := mem_drop_idx ha
   have := mt (hn i _ (key_at e)).mpr (by omega)
   exact .inl (Int.lt_of_not_ge this)
theorem Stab.insL {α : Type} {κ : α → Int} {r : α → α → Prop} {es : List α} (h : Stab κ r es) {x : α} {n : Nat} (hn : ∀ (i : Nat) (k : Int), (es.map κ)[i]? = some k → (i < n ↔ k < κ x)) (hr : ∀ a ∈ es, r x a) : Stab κ r (es.take n ++ x :: es.drop n) := by
 refine h.ins (fun a ha => ?_) fun a ha => ?_
 · obtain ⟨i, hi, e⟩ := mem_take_idx ha
   exact .inl ((hn i _ (key_at e)).mp hi)
 · obtain ⟨i, hi, e⟩ := mem_drop_idx ha
   have := mt (hn i _ (key_at e)).mpr (by omega)
   rcases Int.lt_or_eq_of_le (Int.not_lt.mp this) with q | q
   · exact .inl q
   · exact .inr ⟨q, hr a (List.mem_of_mem_drop ha)⟩
theorem ins_perm {α : Type} (es : List α) (x : α) (n : Nat) : (es.take n ++ x :: es.drop n).Perm (es ++ [x]) := by
 refine List.perm_middle.trans (List.Perm.trans ?_ (List.perm_append_singleton x es).symm)
 rw [List.take_append_drop]
theorem ins_map {α β : Type} (f : α → β) (es : List α) (x : α) (n : Nat) : (es.take n ++ x :: es.drop n).map f = (es.map f).take n ++ f x :: (es.map f).drop n := by
 rw [List.map_append, List.map_cons, List.map_take, List.map_drop]
theorem bis_count {α : Type} {κ : α → Int} {es : List α} {P : Int → Prop} [DecidablePred P] {n : Nat} (hn : n ≤ (es.map κ).length) (h : ∀ (i : Nat) (k : Int), (es.map κ)[i]? = some k → (i < n ↔ P k)) : n = (es.filter fun a => decide (P (κ a))).length := by
 have e : es.filter (fun a => decide (P (κ a))) = es.take n := by
   conv => lhs; rw [← List.take_append_drop n es]
   rw [List.filter_append, List.filter_eq_self.mpr (fun a ha => ?_), List.filter_eq_nil_iff.mpr (fun a ha => ?_), List.append_nil]
   · obtain ⟨i, hi, e⟩ := mem_drop_idx ha
     intro q
     have := (h i _ (key_at e)).mpr (of_decide_eq_true q)
     omega
   · obtain ⟨i, hi, e⟩ := mem_take_idx ha
     exact decide_eq_true ((h i _ (key_at e)).mp hi)
 rw [e, List.length_take]
 rw [List.length_map] at hn
 exact (Nat.min_eq_left hn).symm
noncomputable abbrev kidN (Ns : List Nd) (e : Nd) : Nat := (kidsOf Ns e.p).length
noncomputable abbrev kidK (Ns : List Nd) (e : Nd) : Int := -(kidN Ns e : Int)
noncomputable def rowN (Ns : List Nd) (e : Nd) (j : Nat) : Nat := ((kidsOf Ns e.p).filter fun x => decide (j < kidN Ns x)).length
noncomputable def pileN (Ns : List Nd) (j k : Nat) : Nat := ((kidsOf Ns []).filter fun e => decide (k < rowN Ns e j)).length
theorem row_bis {Ns : List Nd} {e : Nd} {es : List Nd} {j r : Nat} (hp : es.Perm (kidsOf Ns e.p)) (hr : r ≤ (es.map (kidK Ns)).length) (h : ∀ (i : Nat) (k : Int), (es.map (kidK Ns))[i]? = some k → (i < r ↔ k < -(j : Int))) : r = rowN Ns e j := by
 rw [bis_count hr h, (hp.filter _).length_eq]
 unfold rowN
 congr 1
 refine List.filter_congr fun x _ => ?_
 have : (-(kidN Ns x : Int) < -(j : Int)) ↔ (j < kidN Ns x) := by omega
 exact decide_eq_decide.mpr this
theorem pw_take {α : Type} {R : α → α → Prop} {l : List α} (h : l.Pairwise R) {k : Nat} {x a : α} (hx : l[k]? = some x) (ha : a ∈ l.take k) : R a x := by
 obtain ⟨i, hi, e⟩ := mem_take_idx ha
 obtain ⟨h1, e1⟩ := List.getElem?_eq_some_iff.mp e
 obtain ⟨h2, e2⟩ := List.getElem?_eq_some_iff.mp hx
 have := List.pairwise_iff_getElem.mp h i k h1 h2 hi
 rw [e1, e2] at this
 exact this
theorem pw_next {α : Type} {R : α → α → Prop} {l : List α} (h : l.Pairwise R) {i : Nat} {a b : α} (ha : l[i]? = some a) (hb : l[i + 1]? = some b) : R a b := by
 obtain ⟨h1, e1⟩ := List.getElem?_eq_some_iff.mp ha
 obtain ⟨h2, e2⟩ := List.getElem?_eq_some_iff.mp hb
 have := List.pairwise_iff_getElem.mp h i (i + 1) h1 h2 (Nat.lt_succ_self _)
 rw [e1, e2] at this
 exact this
noncomputable abbrev fallK (q : Nat × Nat) : Int := -(q.1 : Int)
noncomputable abbrev FallS (fs : List (Nat × Nat)) : Prop := Stab fallK (fun a b => b.2 ≤ a.2) fs
noncomputable def FallIs (Y : List (Addr × Obj)) (fs : List (Nat × Nat)) (fv : List Value) : Prop := fv.length = fs.length ∧ ∀ (i : Nat) (q : Nat × Nat), fs[i]? = some q → ∃ T a b z, fv[i]? = some (.ref T) ∧ (T, tupO #[Value.int q.1 a, Value.int q.2 b] z) ∈ Y
theorem FallIs.more {Y Y' : List (Addr × Obj)} {fs : List (Nat × Nat)} {fv : List Value} (h : FallIs Y fs fv) (hs : ∀ q ∈ Y, q ∈ Y') : FallIs Y' fs fv := ⟨h.1, fun i q hq => x4a2 (h.2 i q hq) fun T a b z h1 h2 => ⟨T, a, b, z, h1, hs _ h2⟩⟩
theorem FallIs.ins {Y : List (Addr × Obj)} {fs : List (Nat × Nat)} {fv : List Value} (h : FallIs Y fs fv) {T : Addr} {q : Nat × Nat} {a b : Tok} {z n : Nat} (hn : n ≤ fs.length) (hm : (T, tupO #[Value.int q.1 a, Value.int q.2 b] z) ∈ Y) : FallIs Y (fs.take n ++ q :: fs.drop n) (fv.take n ++ Value.ref T :: fv.drop n) := by
 have hl := h.1
 refine ⟨by simp; omega, fun i p hp => ?_⟩
 have l1 : (fs.take n).length = n := by rw [List.length_take]; exact Nat.min_eq_left hn
 have l2 : (fv.take n).length = n := by rw [List.length_take]; exact Nat.min_eq_left (by omega)
 rcases Nat.lt_or_ge i n with c | c
 · rw [List.getElem?_append_left (Nat.lt_of_lt_of_eq c (id (Eq.symm l1))), List.getElem?_take, if_pos c] at hp
   rw [List.getElem?_append_left (Nat.lt_of_lt_of_eq c (id (Eq.symm l2))), List.getElem?_take, if_pos c]
   exact h.2 i p hp
 · rw [List.getElem?_append_right (le_of_eq_of_le l1 c), l1] at hp
   rw [List.getElem?_append_right (le_of_eq_of_le l2 c), l2]
   cases hk : i - n with
   | zero =>
     rw [hk] at hp
     cases hp
     exact ⟨T, a, b, z, rfl, hm⟩
   | succ k =>
     rw [hk, List.getElem?_cons_succ, List.getElem?_drop] at hp
     rw [List.getElem?_cons_succ, List.getElem?_drop]
     exact h.2 _ p hp
noncomputable def cntsOf (Ns : List Nd) (j : Nat) : List Nat := (kidsOf Ns []).map fun e => rowN Ns e j
theorem pile_bis {Ns : List Nd} {j k r : Nat} {fs : List (Nat × Nat)} (hp : fs.Perm (cntsOf Ns j).zipIdx) (hr : r ≤ (fs.map fallK).length) (h : ∀ (i : Nat) (x : Int), (fs.map fallK)[i]? = some x → (i < r ↔ x ≤ -((k : Int) + 1))) : r = pileN Ns j k := by
 rw [bis_count hr h, (hp.filter _).length_eq]
 have e1 : ((cntsOf Ns j).zipIdx.filter fun a => decide (fallK a ≤ -((k : Int) + 1))).length = ((cntsOf Ns j).filter fun c => decide (k < c)).length := by
   have := congrArg List.length (List.filter_map (f := Prod.fst) (p := fun c : Nat => decide (k < c)) (l := (cntsOf Ns j).zipIdx))
   rw [List.zipIdx_map_fst, List.length_map] at this
   rw [this]
   congr 1
   refine List.filter_congr fun x _ => ?_
   have : (-(x.1 : Int) ≤ -((k : Int) + 1)) ↔ (k < x.1) := by omega
   exact decide_eq_decide.mpr this
 rw [e1]
 unfold cntsOf pileN
 rw [List.filter_map, List.length_map]
 rfl
noncomputable def TakenIs (Z : List (Addr × Obj)) (ts : List (Nat × Nat × Nat)) (vs : List Value) : Prop := vs.length = ts.length ∧ ∀ (i : Nat) (t : Nat × Nat × Nat), ts[i]? = some t → ∃ T a b c z, vs[i]? = some (.ref T) ∧ (T, tupO #[Value.int t.1 a, Value.int t.2.1 b, Value.int t.2.2 c] z) ∈ Z
theorem TakenIs.snoc {Z : List (Addr × Obj)} {ts : List (Nat × Nat × Nat)} {vs : List Value} (h : TakenIs Z ts vs) {T : Addr} {t : Nat × Nat × Nat} {a b c : Tok} {z : Nat} {x y u : Int} (ex : x = t.1) (ey : y = t.2.1) (eu : u = t.2.2) : TakenIs ((T, tupO #[Value.int x a, Value.int y b, Value.int u c] z) :: Z) (ts ++ [t]) (vs ++ [Value.ref T]) := by
 subst ex ey eu
 refine ⟨by simp [h.1], fun i p hp => ?_⟩
 rcases Nat.lt_or_ge i ts.length with q | q
 · rw [List.getElem?_append_left q] at hp
   rw [List.getElem?_append_left (by rw [h.1]; exact q)]
   refine x5a2 (h.2 i p hp) ?_; rintro T' a' b' c' z' h1 h2
   exact ⟨T', a', b', c', z', h1, .tail _ h2⟩
 · rw [List.getElem?_append_right q] at hp
   have : i - ts.length = 0 := by
     have := (List.getElem?_eq_some_iff.mp hp).1
     simpa using this
   rw [this] at hp
   cases hp
   exact ⟨T, a, b, c, z, by rw [List.getElem?_append_right (by rw [h.1]; exact q), h.1, this]; rfl, .head _⟩
theorem TakenIs.more {Z Z' : List (Addr × Obj)} {ts : List (Nat × Nat × Nat)} {vs : List Value} (h : TakenIs Z ts vs) (hs : ∀ q ∈ Z, q ∈ Z') : TakenIs Z' ts vs := ⟨h.1, fun i q hq => x5a2 (h.2 i q hq) fun T a b c z h1 h2 => ⟨T, a, b, c, z, h1, hs _ h2⟩⟩
noncomputable def takeL (j k l : Nat) : List (Nat × Nat × Nat) := (List.range l).map fun x => (j, k, x)
noncomputable def takeK (f : Nat → Nat → Nat) (j k : Nat) : List (Nat × Nat × Nat) := (List.range k).flatMap fun y => takeL j y (f j y)
noncomputable def takeJ (f : Nat → Nat → Nat) (j : Nat) : List (Nat × Nat × Nat) := (List.range j).flatMap fun x => takeK f x 3
theorem takeL_succ (j k l : Nat) : takeL j k (l + 1) = takeL j k l ++ [(j, k, l)] := by unfold takeL; rw [List.range_succ, List.map_append]; rfl
theorem takeK_succ (f : Nat → Nat → Nat) (j k : Nat) : takeK f j (k + 1) = takeK f j k ++ takeL j k (f j k) := by unfold takeK; rw [List.range_succ, List.flatMap_append]; simp
theorem takeJ_succ (f : Nat → Nat → Nat) (j : Nat) : takeJ f (j + 1) = takeJ f j ++ takeK f j 3 := by unfold takeJ; rw [List.range_succ, List.flatMap_append]; simp
theorem zip_take {l : List Nat} {i c : Nat} (h : l[i]? = some c) : (l.take (i + 1)).zipIdx = (l.take i).zipIdx ++ [(c, i)] := by
 rw [List.take_add_one, h]
 have hl : (l.take i).length = i := by
   have := (List.getElem?_eq_some_iff.mp h).1
   rw [List.length_take]; omega
 rw [Option.toList_some, List.zipIdx_append, hl]
 simp
theorem zip_lt {l : List Nat} {i : Nat} {q : Nat × Nat} (h : q ∈ (l.take i).zipIdx) : q.2 < i := by
 obtain ⟨h1, h2, _⟩ := List.mem_zipIdx (x := q.1) (i := q.2) h
 rw [List.length_take, Nat.zero_add] at h2
 exact Nat.lt_of_lt_of_le h2 (Nat.min_le_left _ _)
theorem cnts_at {Ns : List Nd} {i j : Nat} {e : Nd} (h : (kidsOf Ns [])[i]? = some e) : (cntsOf Ns j)[i]? = some (rowN Ns e j) := by
 unfold cntsOf; rw [List.getElem?_map, h]; rfl
theorem range1_small (n : Nat) (h : n ≤ 100) : Builtin.Range.small 0 ((n : Nat) : Int) 1 = true :=
 (by decide +kernel : ∀ n : Fin 101, Builtin.Range.small 0 ((n.val : Nat) : Int) 1 = true) ⟨n, by exact Nat.lt_succ_of_le h⟩
theorem range1_size (n : Nat) (h : n ≤ 100) : Builtin.Range.rangeSize 0 ((n : Nat) : Int) 1 = (n : Int) :=
 (by decide +kernel : ∀ n : Fin 101, Builtin.Range.rangeSize 0 ((n.val : Nat) : Int) 1 = (n.val : Int)) ⟨n, by exact Nat.lt_succ_of_le h⟩
theorem takeL_len (j k l : Nat) : (takeL j k l).length = l := by simp [takeL]
theorem takeK_len {f : Nat → Nat → Nat} {c : Nat} (hf : ∀ j k, f j k ≤ c) (j k : Nat) : (takeK f j k).length ≤ k * c := by
 induction k with
 | zero => simp [takeK]
 | succ k ih => rw [takeK_succ, List.length_append, takeL_len, Nat.succ_mul]; exact Nat.add_le_add ih (hf j k)
theorem takeJ_len {f : Nat → Nat → Nat} {c : Nat} (hf : ∀ j k, f j k ≤ c) (j : Nat) : (takeJ f j).length ≤ j * (3 * c) := by
 induction j with
 | zero => simp [takeJ]
 | succ j ih => rw [takeJ_succ, List.length_append, Nat.succ_mul]; exact Nat.add_le_add ih (takeK_len hf j 3)
theorem pileN_le (Ns : List Nd) (j k : Nat) : pileN Ns j k ≤ Ns.length := Nat.le_trans (List.length_filter_le _ _) (kidsOf_len Ns [])
theorem idx1 (j : Nat) : (0 : Int) + j * 1 = j := zi j
end
section
inductive HZTK : {α : Type} → Sem α → Prop
 | c0 (a1 a2 a3) : HZTK (call (Value.ref a1) [Value.ref a2] a3)
 | c1 (a1 a2) : HZTK (eval (Expr.Name (Str.ofString "size") a1) a2)
 | c2 (a1 a2 a3 a4 a5 a6 a7) : HZTK (execs (Stmt.For a1 a2 a3 a4 a5 :: a6) a7)
 | c3 (a1) : HZTK (pyIter a1)
 | c4 (a1 a2) : HZTK (call (Value.ref 57) a1 a2)
 | c5 (a1 a2) : HZTK (call (Value.ref 64) a1 a2)
 | c6 (a1 a2) : HZTK (call (Value.ref 79) a1 a2)
 | c7 (a1 a2 a3 a4 a5) : HZTK (subscriptTail (Expr.Name a1 a2) a3 (Value.ref a4) a5)
 | c8 (a1 a2 a3 a4 a5) : HZTK (assign (Expr.Tuple a1 a2 a3) a4 a5)
 | c9 (a1 a2 a3) : HZTK (unpackItems a1 a2 a3)
 | c10 (a1 a2) : HZTK (call (Value.type "zip") a1 a2)
 | c11 (a1 a2) : HZTK (call (Value.type "enumerate") a1 a2)
 | c12 (a1 a2 a3) : HZTK (getMethod (Value.ref a1) a2 a3)
 | c13 (a1 a2 a3) : HZTK (getAttr (Value.ref a1) a2 a3)
 | c14 (a1 a2) : HZTK (call (Value.builtin "list.append") a1 a2)
 | c15 (a1 a2 a3 a4 a5) : HZTK (subscriptTail a1 a2 (Value.ref a3) (Value.str a4 a5))
namespace ZTK
theorem hzt {α : Type} {M : Model} {A : Around} {t : Sem α} {Q : α → Shared → Prop} {E : Value → Shared → Prop} {s : Shared} (_ : HZTK t) (h : wpAny M A t Q E s) : wpAny M A t Q E s := h
end ZTK
open ZTK
noncomputable abbrev tabT (c1 c2 : Addr) : Array Value := #[rawInt (138 : Nat), rawInt (40 : Nat), .ref c1, rawInt (138 : Nat), rawInt (80 : Nat), .ref c2]
noncomputable def CodeT (c : Addr) (led : List (Addr × Obj)) : Prop := ∃ oc vs t, (c, oc) ∈ led ∧ oc.data = .fields vs ∧ vs[1]? = some (.str ("_law_taken.<locals>.<lambda>" : Str) t)
theorem CodeT.elim {c : Addr} {led : List (Addr × Obj)} {G : Prop} (h : CodeT c led) (k : ∀ oc vs t, (c, oc) ∈ led → oc.data = .fields vs → vs[1]? = some (.str ("_law_taken.<locals>.<lambda>" : Str) t) → G) : G := x3a3 h k
theorem CodeT.more {c : Addr} {led led' : List (Addr × Obj)} (h : CodeT c led) (hs : ∀ q ∈ led, q ∈ led') : CodeT c led' := x3a3 h fun oc vs t h1 h2 h3 => ⟨oc, vs, t, hs _ h1, h2, h3⟩
noncomputable def TabT (ps : Array Value) (st : List (Addr × Obj)) : Prop := ps = #[] ∨ ∃ c1 c2, ps = tabT c1 c2 ∧ CodeT c1 st ∧ CodeT c2 st
noncomputable def SizeFn (w : World) (q : Addr) (need : List (Addr × Obj)) : Prop := (∃ oc od fd sl, (q, (⟨oc, od, .func fd, sl⟩ : Obj)) ∈ need) ∧
 ∀ (news : List (Addr × Obj)) (t l a : Addr) (tg : Str) (st : List (Addr × Obj)) (vs : List Value) (n : Nat), (∀ p ∈ need, p ∈ news) → NodeAt w st t l a tg → (∀ p ∈ st, p ∈ news) → (l, listOf vs.toArray n) ∈ news → vs.length ≤ 1000 → KeyAt w q news (.ref t) (-(vs.length : Int))
noncomputable def CountFn (w : World) (q : Addr) (need : List (Addr × Obj)) : Prop := (∃ oc od fd sl, (q, (⟨oc, od, .func fd, sl⟩ : Obj)) ∈ need) ∧
 ∀ (news : List (Addr × Obj)) (T : Addr) (x : Int) (tx : Tok) (y : Value) (z : Nat), (∀ p ∈ need, p ∈ news) → (T, tupO #[.int x tx, y] z) ∈ news → KeyAt w q news (.ref T) (-x)
theorem news_tk {h₀ h : Heap} {L : Addr} {a b c d e t r k x : Addr × Obj} {R : List (Addr × Obj)} (N : News h₀ L h (a :: b :: c :: d :: e :: t :: r :: k :: x :: R)) : News h₀ L h (r :: t :: k :: x :: ([a, b, c, d, e] ++ R)) := sbn N (by repeat' (first | exact sb0 | exact sbs | refine sbc ?_ ?_ | refine sba ?_ ?_ | refine sbt ?_ | refine sbl sbs | refine sbr ?_ | exact .head _ | refine .tail _ ?_ | refine List.mem_append_right _ ?_))
theorem news_tk2 {h₀ h : Heap} {L : Addr} {a b c d e t r k x : Addr × Obj} {R : List (Addr × Obj)} (N : News h₀ L h (a :: b :: d :: t :: r :: k :: x :: R)) (hc : c ∈ R) (he : e ∈ R) : News h₀ L h (r :: t :: k :: x :: ([a, b, c, d, e] ++ R)) := sbn N (by repeat' (first | exact hc | exact he | exact sb0 | exact sbs | refine sbc ?_ ?_ | refine sba ?_ ?_ | refine sbt ?_ | refine sbl sbs | refine sbr ?_ | exact .head _ | refine .tail _ ?_ | refine List.mem_append_right _ ?_))
noncomputable def RowsAre (Ns : List Nd) (Fz : List (Addr × Obj)) (js : List Nd) (rowsV : List Value) : Prop := rowsV.length = js.length ∧ ∀ (i : Nat) (e : Nd), js[i]? = some e → ∃ D es n, rowsV[i]? = some (.ref D) ∧ (D, listOf (refsOf es).toArray n) ∈ Fz ∧ Stab (kidK Ns) (fun a b => a.nm ≤ b.nm) es ∧ es.Perm (kidsOf Ns e.p)
theorem RowsAre.more {Ns : List Nd} {Fz Fz' : List (Addr × Obj)} {js : List Nd} {rowsV : List Value} (h : RowsAre Ns Fz js rowsV) (hs : ∀ q ∈ Fz, q ∈ Fz') : RowsAre Ns Fz' js rowsV :=
 ⟨h.1, fun i e he => x3a4 (h.2 i e he) fun D es n h1 h2 h3 h4 => ⟨D, es, n, h1, hs _ h2, h3, h4⟩⟩
theorem RowsAre.snoc {Ns : List Nd} {Fz : List (Addr × Obj)} {js : List Nd} {rowsV : List Value} (h : RowsAre Ns Fz js rowsV) {e : Nd} {es : List Nd} {D : Addr} {n : Nat} (hS : Stab (kidK Ns) (fun a b => a.nm ≤ b.nm) es) (hP : es.Perm (kidsOf Ns e.p)) :
   RowsAre Ns ((D, listOf (refsOf es).toArray n) :: Fz) (js ++ [e]) (rowsV ++ [Value.ref D]) := by
 refine ⟨by simp [h.1], fun i e' he => ?_⟩
 rcases Nat.lt_or_ge i js.length with c | c
 · rw [List.getElem?_append_left c] at he
   rw [List.getElem?_append_left (by rw [h.1]; exact c)]
   refine x3a4 (h.2 i e' he) ?_; rintro D' es' n' k1 k2 k3 k4
   exact ⟨D', es', n', k1, .tail _ k2, k3, k4⟩
 · rw [List.getElem?_append_right c] at he
   have : i - js.length = 0 := by
     have := (List.getElem?_eq_some_iff.mp he).1
     simpa using this
   rw [this] at he
   cases he
   exact ⟨D, es, n, by rw [List.getElem?_append_right (by rw [h.1]; exact c), h.1, this]; rfl, .head _, hS, hP⟩
theorem keyAt_size {w : World} {zs : Addr} {own rest news st : List (Addr × Obj)} {Ns : List Nd} {e : Nd} (hsz : SizeFn w zs own) (HB : BushAt w rest st Ns) (ho : ∀ q ∈ own, q ∈ news) (hr : ∀ q ∈ rest, q ∈ news) (he : e ∈ Ns) (hlen : Ns.length ≤ 100) : KeyAt w zs news (.ref e.t) (kidK Ns e) := by
 obtain ⟨n, hm⟩ := HB.kids e he
 have hl := kidsOf_len Ns e.p
 have := hsz.2 news e.t e.l e.a _ st _ n ho (HB.node e he) (fun q hq => hr q (HB.sub q hq)) (hr _ hm) (by simp; omega)
 simpa using this
theorem keyOn_size {w : World} {zs : Addr} {own rest news st : List (Addr × Obj)} {Ns es : List Nd} (hsz : SizeFn w zs own) (HB : BushAt w rest st Ns) (ho : ∀ q ∈ own, q ∈ news) (hr : ∀ q ∈ rest, q ∈ news) (hes : ∀ e ∈ es, e ∈ Ns) (hlen : Ns.length ≤ 100) : KeyOn w zs news (refsOf es) (es.map (kidK Ns)) := by
 refine x4a1 (hsz.1) ?_; rintro oc od fd sl h
 refine ⟨by simp, ⟨oc, od, fd, sl, ho _ h⟩, fun i v k hv hk => ?_⟩
 rw [List.getElem?_map] at hv hk
 obtain ⟨e, he, rfl⟩ := Option.map_eq_some_iff.mp hv
 rw [he] at hk
 cases hk
 exact keyAt_size hsz HB ho hr (hes e (List.mem_of_getElem? he)) hlen
theorem keyOn_count {w : World} {zc : Addr} {own news Y : List (Addr × Obj)} {fs : List (Nat × Nat)} {fv : List Value} (hct : CountFn w zc own) (ho : ∀ q ∈ own, q ∈ news) (hF : FallIs Y fs fv) (hY : ∀ q ∈ Y, q ∈ news) : KeyOn w zc news fv (fs.map fallK) := by
 refine x4a1 (hct.1) ?_; rintro oc od fd sl h
 refine ⟨by simp [hF.1], ⟨oc, od, fd, sl, ho _ h⟩, fun i v k hv hk => ?_⟩
 rw [List.getElem?_map] at hk
 obtain ⟨q, hq, rfl⟩ := Option.map_eq_some_iff.mp hk
 refine x4a2 (hF.2 i q hq) ?_; rintro T a b z h1 h2
 rw [hv] at h1
 cases h1
 exact hct.2 news T q.1 a (.int q.2 b) z ho (hY _ h2)
theorem tk_len {a b c d : Nat} (h : c ≤ d) (e : a = min b c) (k : d ≤ 100) : a ≤ 1000 := by omega
theorem KeyAt.use {w : World} {q : Addr} {news : List (Addr × Obj)} {v : Value} {k : Int} {A : Around} {h₀ : Heap} {L : Addr} {m : Str → Option Value} {s : Shared} {E : Value → Shared → Prop} {Q : Value → Shared → Prop} (K : KeyAt w q news v k) (C : Cx w 360 A L h₀) (hh : A.handled = none) (F : Fr h₀ L s.heap m) (N : News h₀ L s.heap news)
   (h : ∀ h' tk t', Fr h₀ L h' m → News h₀ L h' news → Q (.int k t') { s with heap := h', toks := tk }) : wpAny (model PySem.Challenge.rw_wy0029_01.row.prog w) A (call (.ref q) [v]) Q E s := K A h₀ L m s E Q C hh F N h
theorem news_fall {h₀ h : Heap} {L : Addr} {x o Y : List (Addr × Obj)} {a c : Addr × Obj} (N : News h₀ L h (a :: (x ++ (o ++ c :: Y)))) : News h₀ L h (c :: (a :: (o ++ Y))) := sbn N (by repeat' (first | exact sb0 | exact sbs | refine sbc ?_ ?_ | refine sba ?_ ?_ | refine sbt ?_ | refine sbl sbs | refine sbr ?_ | exact .head _ | refine .tail _ ?_ | refine List.mem_append_right _ ?_))
theorem news_dim3 {h₀ h : Heap} {L : Addr} {o Y B : List (Addr × Obj)} {a c : Addr × Obj} (N : News h₀ L h (c :: (a :: (o ++ (Y ++ B))))) : News h₀ L h (o ++ c :: (a :: Y ++ B)) := sbn N (by repeat' (first | exact sb0 | exact sbs | refine sbc ?_ ?_ | refine sba ?_ ?_ | refine sbt ?_ | refine sbl sbs | refine sbr ?_ | exact .head _ | refine .tail _ ?_ | refine List.mem_append_right _ ?_))
theorem news_mid {h₀ h : Heap} {L : Addr} {o r : List (Addr × Obj)} {a : Addr × Obj} (N : News h₀ L h (o ++ a :: r)) : News h₀ L h (a :: (o ++ r)) := sbn N (by repeat' (first | exact sb0 | exact sbs | refine sbc ?_ ?_ | refine sba ?_ ?_ | refine sbt ?_ | refine sbl sbs | refine sbr ?_ | exact .head _ | refine .tail _ ?_ | refine List.mem_append_right _ ?_))
theorem news_dim {h₀ h : Heap} {L : Addr} {o r : List (Addr × Obj)} {a : Addr × Obj} (N : News h₀ L h (a :: (o ++ r))) : News h₀ L h (o ++ a :: r) := sbn N (by repeat' (first | exact sb0 | exact sbs | refine sbc ?_ ?_ | refine sba ?_ ?_ | refine sbt ?_ | refine sbl sbs | refine sbr ?_ | exact .head _ | refine .tail _ ?_ | refine List.mem_append_right _ ?_))
theorem slice1 {prog : Program} {w : World} {A : Around} {h₀ : Heap} {L l : Addr} {m : Str → Option Value} {news : List (Addr × Obj)} {s : Shared} {E : Value → Shared → Prop} {value slice : Expr} {vs : List Value} {k : Nat} {u : Tok} {ops : List Value} {Q : Value → Shared → Prop} (F : Fr h₀ L s.heap m) (N : News h₀ L s.heap news) (hm : (l, listOf vs.toArray k) ∈ news) (hz : vs.length ≤ 1000)
   (h : ∀ D h', Fr h₀ L h' m → News h₀ L h' ((D, listOf (vs.drop 1).toArray 0) :: news) → (∀ p ∈ news, @LT.lt Nat _ p.1 D) → Q (.ref D) { s with heap := h' })
   (hs : subscripted slice false (.ref l) (.ref s.heap.objs.size) = operate ops (getItem (.ref l) (.ref s.heap.objs.size)) := by with_unfolding_all rfl) (ht : ∀ r, letTemporaryGo value (.ref l) r = pure () := by intro _; with_unfolding_all rfl) :
   wpAny (model prog w) A (subscriptTail value slice (.ref l) (.ref s.heap.objs.size)) Q E { s with heap := s.heap.push { cls := .type "slice", data := .fields #[.int 1 u, .none, .none] } } := by
 refine slice_list3 F N (News.isList N hm) (.int _ _) .none .none (by decide) (fun h' F' N' => h _ h' F' ?_ fun p hp => Nat.lt_succ_of_lt (Heap.lt_size (N p hp).1)) hs ht (by rw [List.size_toArray, sizeLine_eq]; omega)
 rw [show (1 : Int) = ((1 : Nat) : Int) from rfl, slicePick_from'] at N'
 exact N'
inductive T1 (w : World) (rt : Addr) (rest : List (Addr × Obj)) (s : Shared) (g : Heap) (L : Addr) (f : Flow) (s' : Shared) : Prop
 | mk (hf : f = .next) (h' : Heap) (tk : Nat) (m' : Str → Option Value) (rw tl zs zc : Addr) (oc : Obj) (ca : Addr) (own : List (Addr × Obj)) (c1 c2 : Addr) (hs : s' = { s with heap := h', toks := tk }) (F1 : Fr g L h' m') (N1 : News g L h' ((rw, listOf #[] 0) :: (tl, listOf #[] 0) :: (ca, oc) :: (123, tabObj (tabT c1 c2)) :: (own ++ rest)))
   (hoc : oc.data = .cell (some (.ref zs))) (hca : ca = L + 1) (hsz : SizeFn w zs own) (hct : CountFn w zc own) (hc1 : CodeT c1 own) (hc2 : CodeT c2 own) (e1 : m' "root" = some (.ref rt)) (e2 : m' "rows" = some (.ref rw)) (e3 : m' "taken" = some (.ref tl)) (e4 : m' "count" = some (.ref zc)) (hne : rw ≠ tl) (hap : ∀ q ∈ (ca, oc) :: (123, tabObj (tabT c1 c2)) :: (own ++ rest), q.1 ≠ rw ∧ q.1 ≠ tl)
inductive T3 (Ns : List Nd) (K : List (Addr × Obj)) (rw tl zc : Addr) (js : List Nd) (m : Str → Option Value) (data : List (Addr × Obj)) : Prop
 | mk (Fz : List (Addr × Obj)) (rowsV : List Value) (n : Nat) (hd : data = (rw, listOf rowsV.toArray n) :: (tl, listOf #[] 0) :: Fz) (hKF : ∀ q ∈ K, q ∈ Fz) (hap : ∀ q ∈ Fz, q.1 ≠ rw ∧ q.1 ≠ tl) (hR : RowsAre Ns Fz js rowsV) (e2 : m "rows" = some (.ref rw)) (e3 : m "taken" = some (.ref tl)) (e4 : m "count" = some (.ref zc))
inductive T2 (Ns : List Nd) (K : List (Addr × Obj)) (rw tl zc : Addr) (s : Shared) (g : Heap) (L : Addr) (f : Flow) (s' : Shared) : Prop
 | mk (hf : f = .next) (h' : Heap) (tk : Nat) (m' : Str → Option Value) (data : List (Addr × Obj)) (hs : s' = { s with heap := h', toks := tk }) (F1 : Fr g L h' m') (N1 : News g L h' data) (H : T3 Ns K rw tl zc (kidsOf Ns []) m' data)
inductive T5 (Ns : List Nd) (base : List (Addr × Obj)) (D rw tl zc : Addr) (ks : List Nd) (m : Str → Option Value) (data : List (Addr × Obj)) : Prop
 | mk (es : List Nd) (nE : Nat) (hd : data = (D, listOf (refsOf es).toArray nE) :: base) (hS : Stab (kidK Ns) (fun a b => a.nm ≤ b.nm) es) (hP : es.Perm ks) (e1 : m "kids" = some (.ref D)) (e2 : m "rows" = some (.ref rw)) (e3 : m "taken" = some (.ref tl)) (e4 : m "count" = some (.ref zc))
inductive T4 (Ns : List Nd) (base : List (Addr × Obj)) (rw tl zc : Addr) (ks : List Nd) (s : Shared) (g : Heap) (L D : Addr) (f : Flow) (s' : Shared) : Prop
 | mk (hf : f = .next) (h' : Heap) (tk : Nat) (m' : Str → Option Value) (data : List (Addr × Obj)) (hs : s' = { s with heap := h', toks := tk }) (F1 : Fr g L h' m') (N1 : News g L h' data) (hap : ∀ p ∈ base, p.1 ≠ D) (H : T5 Ns base D rw tl zc ks m' data)
inductive T7 (Ns : List Nd) (G : List (Addr × Obj)) (rw tl zc : Addr) (i : Nat) (m : Str → Option Value) (data : List (Addr × Obj)) : Prop
 | mk (takenV : List Value) (n : Nat) (Z : List (Addr × Obj)) (hd : data = (tl, listOf takenV.toArray n) :: Z) (hGZ : ∀ q ∈ G, q ∈ Z) (hZt : ∀ q ∈ Z, q.1 ≠ tl) (hT : TakenIs Z (takeJ (pileN Ns) i) takenV) (e2 : m "rows" = some (.ref rw)) (e3 : m "taken" = some (.ref tl)) (e4 : m "count" = some (.ref zc))
inductive T6 (Ns : List Nd) (G : List (Addr × Obj)) (rw tl zc : Addr) (s : Shared) (g : Heap) (L : Addr) (f : Flow) (s' : Shared) : Prop
 | mk (hf : f = .next) (h' : Heap) (tk : Nat) (m' : Str → Option Value) (data : List (Addr × Obj)) (hs : s' = { s with heap := h', toks := tk }) (F1 : Fr g L h' m') (N1 : News g L h' data) (H : T7 Ns G rw tl zc 3 m' data)
inductive T9 (base : List (Addr × Obj)) (D rw tl zc : Addr) (j : Nat) (tv : Tok) (cs : List Nat) (m : Str → Option Value) (data : List (Addr × Obj)) : Prop
 | mk (fs : List (Nat × Nat)) (fv : List Value) (nF : Nat) (Y : List (Addr × Obj)) (hd : data = (D, listOf fv.toArray nF) :: (Y ++ base)) (hYf : ∀ q ∈ Y, q.1 ≠ D) (hF : FallIs Y fs fv) (hS : FallS fs) (hP : fs.Perm cs.zipIdx) (e1 : m "falling" = some (.ref D)) (e2 : m "j" = some (.int ((0 : Int) + j * 1) tv)) (e3 : m "rows" = some (.ref rw)) (e4 : m "taken" = some (.ref tl)) (e5 : m "count" = some (.ref zc))
inductive T8 (base : List (Addr × Obj)) (rw tl zc : Addr) (j : Nat) (tv : Tok) (cs : List Nat) (s : Shared) (g : Heap) (L D : Addr) (f : Flow) (s' : Shared) : Prop
 | mk (hf : f = .next) (h' : Heap) (tk : Nat) (m' : Str → Option Value) (data : List (Addr × Obj)) (hs : s' = { s with heap := h', toks := tk }) (F1 : Fr g L h' m') (N1 : News g L h' data) (hap : ∀ q ∈ base, q.1 ≠ D) (H : T9 base D rw tl zc j tv cs m' data)
inductive T10 (Z : List (Addr × Obj)) (I : Addr) (o X : List (Addr × Obj)) (tk : List (Nat × Nat × Nat)) (D rw tl zc : Addr) (j : Nat) (tv : Tok) (m : Str → Option Value) (data : List (Addr × Obj)) : Prop
 | mk (takenV : List Value) (nT : Nat) (Z2 : List (Addr × Obj)) (hd : data = (tl, listOf takenV.toArray nT) :: (o ++ (X ++ Z2))) (hZ : ∀ q ∈ Z, q ∈ Z2) (hZt : ∀ q ∈ Z2, q.1 ≠ tl ∧ q.1 ∉ [I]) (hT : TakenIs Z2 tk takenV) (e1 : m "falling" = some (.ref D)) (e2 : m "j" = some (.int ((0 : Int) + j * 1) tv)) (e3 : m "rows" = some (.ref rw)) (e4 : m "taken" = some (.ref tl)) (e5 : m "count" = some (.ref zc))
inductive T11 (Z : List (Addr × Obj)) (I I5 : Addr) (pre o X : List (Addr × Obj)) (tk : List (Nat × Nat × Nat)) (D rw tl zc : Addr) (j k : Nat) (tv tv2 : Tok) (m : Str → Option Value) (data : List (Addr × Obj)) : Prop
 | mk (takenV : List Value) (nT : Nat) (Z2 : List (Addr × Obj)) (hd : data = pre ++ (tl, listOf takenV.toArray nT) :: (o ++ (X ++ Z2))) (hZ : ∀ q ∈ Z, q ∈ Z2) (hZt : ∀ q ∈ Z2, q.1 ≠ tl ∧ q.1 ∉ [I] ∧ q.1 ∉ [I5]) (hT : TakenIs Z2 tk takenV) (e1 : m "falling" = some (.ref D)) (e2 : m "j" = some (.int ((0 : Int) + j * 1) tv)) (e2k : m "k" = some (.int ((0 : Int) + k * 1) tv2)) (e3 : m "rows" = some (.ref rw)) (e4 : m "taken" = some (.ref tl)) (e5 : m "count" = some (.ref zc))
noncomputable def SzK (w : World) (pa : Arguments) (bo : Expr) (sc : Scope) : Prop := ∀ (need : List (Addr × Obj)) (zs c : Addr) (oc : Obj) (vs : Array Value) (t : Tok) (qual : Str) (mn ctv : Value), (zs, kla_obj "<lambda>" qual pa bo sc [] mn c ctv) ∈ need → (c, oc) ∈ need → oc.data = .fields vs → vs[1]? = some (.str qual t) → SizeFn w zs need
noncomputable def CtK (w : World) (pa : Arguments) (bo : Expr) (sc : Scope) : Prop := ∀ (need : List (Addr × Obj)) (zs c : Addr) (oc : Obj) (vs : Array Value) (t : Tok) (qual : Str) (mn ctv : Value), (zs, kla_obj "<lambda>" qual pa bo sc [] mn c ctv) ∈ need → (c, oc) ∈ need → oc.data = .fields vs → vs[1]? = some (.str qual t) → CountFn w zs need
theorem suff2 {α β γ : Type} {P R : α → β → γ → Prop} {G : Prop} {a a' : α} {b b' : β} {c c' : γ} (k : P a b c → R a' b' c' → G) (h : P a b c) (h' : R a' b' c') : G := k h h'
section
variable {w : World} {A : Around} {h₀ : Heap} {L : Addr} {m : Str → Option Value} {rest : List (Addr × Obj)} {s : Shared} {E : Value → Shared → Prop} {Q : Value → Shared → Prop}
set_option maxHeartbeats 4000000 in
theorem taken_ok {rt : Addr} {ps : Array Value} {st0 : List (Addr × Obj)} (C : Cx w 310 A L h₀) (hh : A.handled = none) (F : Fr h₀ L s.heap m) (N : News h₀ L s.heap ((123, tabObj ps) :: rest)) (hr : ∀ q ∈ rest, q.1 ≠ 123) (hps : TabT ps st0) (hst0 : ∀ q ∈ st0, q ∈ rest)
   {b : Array UInt8} {np : Nat} {st : List (Addr × Obj)} {Ns : List Nd} {r₀ : Nd} (HB : BushAt w rest st Ns) (htell : tellOf Ns = ([], 0) :: growN b np) (hlen : Ns.length ≤ 100) (hr0 : r₀ ∈ Ns) (hrt : r₀.t = rt) (hrp : r₀.p = [])
   (h : ∀ h' tk tl takenV n led c1 c2, Fr h₀ L h' m → News h₀ L h' led → (∀ q ∈ rest, q ∈ led) → (123, tabObj (tabT c1 c2)) ∈ led → CodeT c1 led → CodeT c2 led → (tl, listOf takenV.toArray n) ∈ led → TakenIs led (takeJ (pileN Ns) 3) takenV → Q (.ref tl) { s with heap := h', toks := tk }) :
   wpAny (model PySem.Challenge.rw_wy0029_01.row.prog w) A (call (.ref 126) [.ref rt]) Q E s := by
 (((rename Cx _ _ _ _ _ => c0z); (obtain ⟨hdz, huz, hAz, hfz, hkz, Bz, Xz, CT1z, CT2z, Tz⟩ := c0z); (refine lift_around hdz huz hAz ?_); (try refine wpAny_noRaise ?_); (have q0z : (PySem.Challenge.rw_wy0029_01, fun P => (Mine.hd.heap_1 P).length) = (PySem.Challenge.rw_wy0029_01, fun P => (Mine.hd.heap_1 P).length) := by k_fill; rfl); clear q0z); (refine wpAny_call ?_); (refine' code_defC ?k1 ?k2 ?k3 ?k4 ?k5 ?kA ?kF ?kK ?k6 ?k7 ?k8 ?k9 ?kB ?kD ?_ ?c2 ?c3 ?c4; (case kA => exact rfl); (case kF => first | assumption | exact rfl); (case kK => first | assumption | exact rfl); (case k1 => k_asm); (case k2 => k_asm); (case k3 => k_asm); (case k4 => k_asm); (case k5 => k_asm); (case k6 => k_is); (case k7 => k_is); (case k8 => k_room); (case k9 => first | exact BindsTo.of_eq rfl | exact binds_K (by k_in) rfl (by k_is) rfl rfl rfl | (refine' kp_binds ?kx ?ke; (case kx => k_in); (case ke => exact fun _ => rfl))); (case kB => exact rfl); (case kD => decide +kernel); (case c2 => exact rfl); (case c3 => exact rfl); (case c4 => exact rfl); k_whole; intro gz' Lz' hz' tkz' cellsz' FGz' Fz' Nz' Yz' Bz' Xz' Tz' l1z; (have c1z' := CodeHd.keeps (c := 125) (P := 123) (by assumption) (Fr.keep FGz')); (have c2z' := CodeHd.keeps (c := 108) (P := 104) (by assumption) (Fr.keep FGz')); (try k_lt l1z); k_cells Yz'; (try simp only [List.cons_append, List.nil_append] at Nz'); (try dsimp only); (try k_lift Bz'); (try k_fold)); (refine wpAny_noRaise ?_))
 rename Fr _ _ _ _ => F0
 with_reducible refine stmt_firstO F0 (T1 w rt rest s) ?_ ?_
 · intro P' E' hPP _
   with_reducible refine' suff2 (P := SzK w) (R := CtK w) (fun keyS keyC => ?main) ?l1 ?l2
   case main =>
     rcases hps with rfl | ⟨c1, c2, rfl, hc1, hc2⟩
     · walk_at "zs"
       rename Fr _ _ _ _ => F1
       rename News _ _ _ _ => N1
       refine zunp hh F1 N1 (.head _) rfl rfl rfl rfl fun h2 F2 N2 => ?_
       clear F1 N1
       walk_at "zs"
       rename Fr _ _ _ _ => F1
       rename News _ _ _ _ => N1
       refine hPP _ _ ?_
       refine ⟨rfl, _, _, _, _, _, _, _, _, _, _, _, _, rfl, F1, news_tk N1, by assumption, rfl, keyS _ _ _ _ _ _ _ _ _ (.tail _ (.tail _ (.tail _ (.head _)))) (.tail _ (.tail _ (.tail _ (.tail _ (.head _))))) (by assumption) (by assumption), keyC _ _ _ _ _ _ _ _ _ (.tail _ (.head _)) (.tail _ (.tail _ (.head _))) (by assumption) (by assumption), ⟨_, _, _, .tail _ (.tail _ (.tail _ (.tail _ (.head _)))), by assumption, by assumption⟩, ⟨_, _, _, .tail _ (.tail _ (.head _)), by assumption, by assumption⟩, by walk_at "zlook", by walk_at "zlook", by walk_at "zlook", by walk_at "zlook", ?_, ?_⟩
       · repeat (rename _ ∧ _ => hAnd'; obtain ⟨hl', hr'⟩ := hAnd')
         k_ne
       · repeat (rename _ ∧ _ => hAnd'; obtain ⟨hl', hr'⟩ := hAnd')
         refine ac ?_ (ac ?_ (aa (ac ?_ (ac ?_ (ac ?_ (ac ?_ (ac ?_ ac0))))) fun q hq => ?_))
         · constructor <;> k_ne
         · constructor <;> k_ne
         · constructor <;> k_ne
         · constructor <;> k_ne
         · constructor <;> k_ne
         · constructor <;> k_ne
         · constructor <;> k_ne
         · exact ⟨Nat.ne_of_lt (AllLt.mem (by assumption) q hq), Nat.ne_of_lt (AllLt.mem (by assumption) q hq)⟩
     · with_reducible refine CodeT.elim hc1 ?_; clear hc1; rintro oc1 vs1 t1 mc1 dc1 ec1
       with_reducible refine CodeT.elim hc2 ?_; clear hc2; rintro oc2 vs2 t2 mc2 dc2 ec2
       have mc1' := hst0 _ mc1
       have mc2' := hst0 _ mc2
       walk_at "zs"
       rename Fr _ _ _ _ => F1
       rename News _ _ _ _ => N1
       refine zunp hh F1 N1 (.head _) rfl rfl rfl rfl fun h2 F2 N2 => ?_
       clear F1 N1
       walk_at "zs"
       rename Fr _ _ _ _ => F1
       rename News _ _ _ _ => N1
       refine hPP _ _ ?_
       refine ⟨rfl, _, _, _, _, _, _, _, _, _, _, _, _, rfl, F1, news_tk2 N1 mc2' mc1', by assumption, rfl, keyS _ _ _ _ _ _ _ _ _ (.tail _ (.tail _ (.tail _ (.head _)))) (.tail _ (.tail _ (.tail _ (.tail _ (.head _))))) (by assumption) (by assumption), keyC _ _ _ _ _ _ _ _ _ (.tail _ (.head _)) (.tail _ (.tail _ (.head _))) (by assumption) (by assumption), ⟨_, _, _, .tail _ (.tail _ (.tail _ (.tail _ (.head _)))), by assumption, by assumption⟩, ⟨_, _, _, .tail _ (.tail _ (.head _)), by assumption, by assumption⟩, by walk_at "zlook", by walk_at "zlook", by walk_at "zlook", by walk_at "zlook", ?_, ?_⟩
       · repeat (rename _ ∧ _ => hAnd'; obtain ⟨hl', hr'⟩ := hAnd')
         k_ne
       · repeat (rename _ ∧ _ => hAnd'; obtain ⟨hl', hr'⟩ := hAnd')
         refine ac ?_ (ac ?_ (aa (ac ?_ (ac ?_ (ac ?_ (ac ?_ (ac ?_ ac0))))) fun q hq => ?_))
         · constructor <;> k_ne
         · constructor <;> k_ne
         · constructor <;> k_ne
         · constructor <;> k_ne
         · exact ⟨Nat.ne_of_lt (AllLt.mem (by assumption) _ mc2'), Nat.ne_of_lt (AllLt.mem (by assumption) _ mc2')⟩
         · constructor <;> k_ne
         · exact ⟨Nat.ne_of_lt (AllLt.mem (by assumption) _ mc1'), Nat.ne_of_lt (AllLt.mem (by assumption) _ mc1')⟩
         · exact ⟨Nat.ne_of_lt (AllLt.mem (by assumption) q hq), Nat.ne_of_lt (AllLt.mem (by assumption) q hq)⟩
   case l1 =>
     intro need zs c oc vs0 t0 qual mn ctv m1' m2' d1 d2
     clear hPP hps N F h F0
     refine ⟨⟨_, _, _, _, m1'⟩, ?_⟩
     intro news t l a tg st vs n hn hN hst hm hlen A h₀ L m s E Q C hh F N h
     have m1 := hn _ m1'
     have m2 := hn _ m2'
     clear hn m1' m2'
     ((((rename Cx _ _ _ _ _ => c0z); (obtain ⟨hdz, huz, hAz, hfz, hkz, Bz, Xz, CT1z, CT2z, Tz⟩ := c0z); (refine lift_around hdz huz hAz ?_); (try refine wpAny_noRaise ?_); (have q0z : (PySem.Challenge.rw_wy0029_01, fun P => (Mine.hd.heap_1 P).length) = (PySem.Challenge.rw_wy0029_01, fun P => (Mine.hd.heap_1 P).length) := by k_fill; rfl); clear q0z); (refine wpAny_call ?_); (refine' kla_code ?k1 ?k2 ?k3 ?k4 ?k5 ?kA ?kF ?kK ?k6 ?k7 ?k8 ?k9 ?kB ?_ ?c2 ?c3 ?c4 ?c5; (case kA => exact rfl); (case kF => first | assumption | exact rfl); (case kK => first | assumption | exact rfl); (case k1 => k_asm); (case k2 => k_asm); (case k3 => k_asm); (case k4 => k_asm); (case k5 => k_asm); (case k6 => k_mem); (case k7 => exact codeRec_news (by k_asm) (by k_mem) (by assumption) (by assumption)); (case k8 => k_room); (case k9 => exact rfl); (case c5 => decide); (case kB => exact locs rfl); (case c2 => exact rfl); (case c3 => exact rfl); (case c4 => exact rfl); k_whole; intro gz' Lz' hz' FGz' Fz' Nz' Bz' Xz' Tz'; (have c1z' := CodeHd.keeps (c := 125) (P := 123) (by assumption) (Fr.keep FGz')); (have c2z' := CodeHd.keeps (c := 108) (P := 104) (by assumption) (Fr.keep FGz')); (try dsimp only); (try k_lift Bz'); (try k_fold))))
     walk_at "zs"
     rename News _ _ _ _ => N2
     refine hN.gKids N2 hst ?_
     walk_at "zs"
     refine hint_ok (by exact .mk (Nat.le_of_ble_eq_true rfl) (Nat.le_of_ble_eq_true rfl) rfl rfl rfl (by assumption) (by assumption) (by assumption) (by assumption) (by assumption)) (by k_asm) N2 hm hlen ?_
     intro h3 tk3 t3 F3 N3
     walk_at "zs"
     refine neg_ok (by exact .mk (Nat.le_of_ble_eq_true rfl) (Nat.le_of_ble_eq_true rfl) rfl rfl rfl (by assumption) (by assumption) (by assumption) (by assumption) (by assumption)) F3 N3 ?_
     intro h4 tk4 t4 F4 N4
     walk_at "zs"
     exact h _ _ _ (by k_asm) (by k_asm)
   case l2 =>
     intro need zs c oc vs0 t0 qual mn ctv m1' m2' d1 d2
     clear hPP hps N F h F0
     refine ⟨⟨_, _, _, _, m1'⟩, ?_⟩
     intro news T x tx y z hn hm A h₀ L m s E Q C hh F N h
     have m1 := hn _ m1'
     have m2 := hn _ m2'
     clear hn m1' m2'
     ((((rename Cx _ _ _ _ _ => c0z); (obtain ⟨hdz, huz, hAz, hfz, hkz, Bz, Xz, CT1z, CT2z, Tz⟩ := c0z); (refine lift_around hdz huz hAz ?_); (try refine wpAny_noRaise ?_); (have q0z : (PySem.Challenge.rw_wy0029_01, fun P => (Mine.hd.heap_1 P).length) = (PySem.Challenge.rw_wy0029_01, fun P => (Mine.hd.heap_1 P).length) := by k_fill; rfl); clear q0z); (refine wpAny_call ?_); (refine' kla_code ?k1 ?k2 ?k3 ?k4 ?k5 ?kA ?kF ?kK ?k6 ?k7 ?k8 ?k9 ?kB ?_ ?c2 ?c3 ?c4 ?c5; (case kA => exact rfl); (case kF => first | assumption | exact rfl); (case kK => first | assumption | exact rfl); (case k1 => k_asm); (case k2 => k_asm); (case k3 => k_asm); (case k4 => k_asm); (case k5 => k_asm); (case k6 => k_mem); (case k7 => exact codeRec_news (by k_asm) (by k_mem) (by assumption) (by assumption)); (case k8 => k_room); (case k9 => exact rfl); (case c5 => decide); (case kB => exact locs rfl); (case c2 => exact rfl); (case c3 => exact rfl); (case c4 => exact rfl); k_whole; intro gz' Lz' hz' FGz' Fz' Nz' Bz' Xz' Tz'; (have c1z' := CodeHd.keeps (c := 125) (P := 123) (by assumption) (Fr.keep FGz')); (have c2z' := CodeHd.keeps (c := 108) (P := 104) (by assumption) (Fr.keep FGz')); (try dsimp only); (try k_lift Bz'); (try k_fold))))
     walk_at "zs"
     rename News _ _ _ _ => N2
     refine item_tupleT (k := 0) (j := 0) (l := [.int x tx, y]) ⟨_, (N2 _ hm).1, rfl, _, rfl⟩ (by decide) (by decide) rfl rfl ?_
     walk_at "zs"
     refine neg_ok (by exact .mk (Nat.le_of_ble_eq_true rfl) (Nat.le_of_ble_eq_true rfl) rfl rfl rfl (by assumption) (by assumption) (by assumption) (by assumption) (by assumption)) (by k_asm) N2 ?_
     intro h4 tk4 t4 F4 N4
     walk_at "zs"
     exact h _ _ _ (by k_asm) (by k_asm)
 · intro f s' H
   ((refine opq ?_); intro G' hG')
   obtain ⟨rfl, h', tk, m', rw, tl, zs, zc, oc, ca, own, c1, c2, rfl, F1, N1, hoc, hca, hsz, hct, hc1, hc2, e1, e2, e3, e4, hne, hap⟩ := H
   ((with_reducible rename Opq _ _ => hG'); (refine hG' ?_); clear hG'; (try dsimp only))
   obtain ⟨K, hK⟩ : ∃ K, K = (ca, oc) :: (123, tabObj (tabT c1 c2)) :: (own ++ rest) := ⟨_, rfl⟩
   rw [← hK] at N1 hap
   have cK : (ca, oc) ∈ K := by rw [hK]; exact .head _
   have rK : ∀ q ∈ rest, q ∈ K := fun q hq => by rw [hK]; exact .tail _ (.tail _ (List.mem_append_right _ hq))
   have sK : ∀ q ∈ st, q ∈ K := fun q hq => rK q (HB.sub q hq)
   have oK : ∀ q ∈ own, q ∈ K := fun q hq => by rw [hK]; exact .tail _ (.tail _ (List.mem_append_left _ hq))
   refine stmt_firstO F1 (T2 Ns K rw tl zc s) ?_ ?_
   · intro P' E' hPP _
     refine wpAny_For ?_
     walk_at "zs"
     obtain ⟨nk, mk⟩ := HB.kids r₀ hr0
     have nd := HB.node r₀ hr0
     rw [hrt] at nd
     rw [hrp] at mk
     refine nd.gKids N1 (fun q hq => .tail _ (.tail _ (sK q hq))) ?_
     walk_at "zs"
     refine zlist hh F1 N1 (.tail _ (.tail _ (rK _ mk))) ?_
     intro I o O h2 SL hO hoff hown F2 N2
     refine zforL (SL _ (zgoN I)) (fun i m data => T3 Ns K rw tl zc ((kidsOf Ns []).take i) m data)
       (fun i m data hJ p hp => by obtain ⟨Fz, rowsV, n, rfl, hK2, _⟩ := hJ; rw [List.mem_singleton.mp hp]; exact .tail _ (.tail _ (hK2 _ (rK _ mk)))) F2 N2 hO hoff
       ⟨K, [], 0, rfl, fun q hq => hq, hap, ⟨rfl, fun _ _ h => nomatch h⟩, e2, e3, e4⟩ ?_ ?_
     · clear F1 N1 F2 N2 hO hoff nd e1 e2 e3 e4
       intro J' R' σ hJJ i v o₁ m₁ data h₁ tk₁ hi HQ0 hv hO₁ ho₁ hn₁ F3 N3
       ((refine opq ?_); intro G' hG')
       obtain ⟨Fz, rowsV, n, rfl, hKF, hapF, hR, e2, e3, e4⟩ := HQ0
       ((with_reducible rename Opq _ _ => hG'); (refine hG' ?_); clear hG'; (try dsimp only))
       obtain ⟨e, he, rfl⟩ : ∃ e, (kidsOf Ns [])[i]? = some e ∧ Value.ref e.t = v := by simpa using hv
       obtain ⟨k1, k2, k3⟩ := kidsOf_mem (List.mem_of_getElem? he)
       walk_at "zs"
       rename Fr _ _ _ _ => F4
       rename News _ _ _ _ => N4
       simp only [List.nil_append] at N4
       rename (∀ p ∈ [] ++ _, @LT.lt Nat _ _ _) => hl4
       rename Addr => kd
       obtain ⟨base, hbase⟩ : ∃ B, B = o₁ ++ (rw, listOf rowsV.toArray n) :: (tl, listOf #[] 0) :: Fz := ⟨_, rfl⟩
       have hl4' : ∀ p ∈ base, @LT.lt Nat _ p.1 kd := fun p hp => hl4 p (by rw [hbase] at hp; exact hp)
       have up4 : ∀ q ∈ K, q ∈ base := fun q hq => by rw [hbase]; exact List.mem_append_right _ (.tail _ (.tail _ (hKF q hq)))
       rw [← hbase] at N4
       clear hl4
       refine stmt_firstNO F4 N4 (T4 Ns base rw tl zc (kidsOf Ns e.p) σ) ?_ ?_
       · intro P' E' hPP _
         refine wpAny_For ?_
         walk_at "zs"
         rename Fr _ _ _ _ => F4
         rename News _ _ _ _ => N4
         obtain ⟨nk2, mk2⟩ := HB.kids e k1
         refine (HB.node e k1).gKids N4 (fun q hq => .tail _ (up4 q (sK q hq))) ?_
         refine zlist hh F4 N4 (.tail _ (up4 _ (rK _ mk2))) ?_
         intro I2 o2 O2 h5 SL2 hO2 hoff2 hown2 F5 N5
         refine zforL (SL2 _ (zgoN I2)) (fun k m data2 => T5 Ns base kd rw tl zc ((kidsOf Ns e.p).take k) m data2)
           (fun k m data hJ p hp => by obtain ⟨es, nE, rfl, _⟩ := hJ; rw [List.mem_singleton.mp hp]; exact .tail _ (up4 _ (rK _ mk2))) F5 N5 hO2 hoff2
           ⟨[], 0, rfl, .nil, List.Perm.refl _, by walk_at "zlook", by walk_at "zlook", by walk_at "zlook", by walk_at "zlook"⟩ ?_ ?_
         · clear F4 N4 F5 N5 hO2 hoff2 e2 e3 e4
           intro J' R' σ hJJ k v o₃ m₃ data2 h₃ tk₃ hk HQ0 hv2 hO₃ ho₃ hn₂ F6 N6
           ((refine opq ?_); intro G' hG')
           obtain ⟨es, nE, rfl, hS, hP, e1, e2, e3, e4⟩ := HQ0
           ((with_reducible rename Opq _ _ => hG'); (refine hG' ?_); clear hG'; (try dsimp only))
           obtain ⟨x, hx, rfl⟩ : ∃ x, (kidsOf Ns e.p)[k]? = some x ∧ Value.ref x.t = v := by simpa using hv2
           simp only [List.nil_append] at N6
           walk_at "zs"
           rename News _ _ _ _ => N7
           rename Fr _ _ _ _ => F7
           have up7 : ∀ q ∈ K, q ∈ o₃ ++ base := fun q hq => List.mem_append_right _ (up4 q hq)
           refine nameX_C (news_mid N7) (by rw [hca]; rfl) (.tail _ (up7 _ cK)) hoc ?_
           walk_at "zs"
           have hin : ∀ a ∈ es, a ∈ (kidsOf Ns e.p).take k := fun a ha => hP.mem_iff.mp ha
           have hin2 : ∀ a ∈ es, a ∈ Ns := fun a ha => (kidsOf_mem (List.mem_of_mem_take (hin a ha))).1
           have hkn := kidsOf_mem (List.mem_of_getElem? hx)
           refine insR_ok (by exact .mk (Nat.le_of_ble_eq_true rfl) (Nat.le_of_ble_eq_true rfl) rfl rfl rfl (by assumption) (by assumption) (by assumption) (by assumption) (by assumption)) hh F7 (news_mid N7) (fun p hp => ?_) (by simp; have q1 := hP.length_eq; rw [List.length_take] at q1; exact tk_len (kidsOf_len Ns e.p) q1 hlen) (keyOn_size hsz HB (fun q hq => .tail _ (up7 _ (oK q hq))) (fun q hq => .tail _ (up7 _ (rK q hq))) hin2 hlen)
             (keyAt_size hsz HB (fun q hq => .tail _ (up7 _ (oK q hq))) (fun q hq => .tail _ (up7 _ (rK q hq))) hkn.1 hlen) hS.rises ?_
           · rcases List.mem_append.mp hp with hp | hp
             · rw [List.mem_singleton.mp (ho₃ p hp)]
               exact fun e => hn₂ _ (.head _) (by rw [← e]; exact .head _)
             · exact Nat.ne_of_lt (hl4' p hp)
           intro h8 tk8 r F8 N8 hr1 hr2
           walk_at "zs"
           (try dsimp only [ZTurn])
           rw [← ins_map (fun y : Nd => Value.ref y.t) es x r] at N8
           refine ZNext.intro F8 (news_dim N8) (fun p hp => ?_) (hJJ _ _ _ ⟨_, _, rfl, hS.insR hr2 (fun a ha => pw_take (kids_names htell e.p) hx (hin a ha)), ?_, by walk_at "zlook", by walk_at "zlook", by walk_at "zlook", by walk_at "zlook"⟩)
           · rcases List.mem_cons.mp hp with rfl | hp
             · exact fun q => hn₂ _ (.head _) q
             · exact hn₂ p (.tail _ hp)
           · rw [List.take_add_one, hx]
             exact (ins_perm es x r).trans (hP.append_right _)
         · intro h' tk m' news' F6 N6 H
           walk_at "zs"
           rw [List.take_of_length_le (by simp)] at H
           refine hPP _ _ ?_
           exact ⟨rfl, _, _, _, _, rfl, F6, N6, fun p hp => Nat.ne_of_lt (hl4' p hp), H⟩
       · intro f s' H
         ((refine opq ?_); intro G' hG')
         obtain ⟨rfl, h', tk, m', data, rfl, F5, N5, hapD, H5⟩ := H
         obtain ⟨es, nE, rfl, hS, hP, e1, e2, e3, e4⟩ := H5
         ((with_reducible rename Opq _ _ => hG'); (refine hG' ?_); clear hG'; (try dsimp only))
         clear F4 N4 hl4'
         refine wpAny_execs_cons ?_
         walk_at "zs"
         refine zcompF F5 (by exact rfl) (by decide) (by exact rfl) (by decide) ?_
         walk_at "zs"
         have hzl : (refsOf es).length ≤ 1000 := by have := hP.length_eq; have := kidsOf_len Ns e.p; simp; omega
         refine slice1 (s := ⟨_, _, _, _, _⟩) F5 N5 (.head _) hzl ?_
         intro D1 h6 F6 N6 hD1
         walk_at "zs"
         refine zzip hh F6 N6 (.tail _ (.head _)) (.head _) ?_
         intro I3 ow3 o3 O3 h7 SZ hO3 hoff3 hown3 F7 N7
         walk_at "zs"
         refine (SZ [] 0 default).self 0 o3 _ _ _ _ _ _ hO3 (fun p hp => ?_) N7 ?_
         · rcases List.mem_cons.mp hp with rfl | hp
           · exact .tail _ (.head _)
           · rw [List.mem_singleton.mp hp]; exact .head _
         obtain ⟨nw0, hnw0⟩ : ∃ Z, Z = (D1, listOf ((refsOf es).drop 1).toArray 0) :: (kd, listOf (refsOf es).toArray nE) :: base := ⟨_, rfl⟩
         have hneed : ∀ p ∈ [(kd, listOf (refsOf es).toArray nE), (D1, listOf ((refsOf es).drop 1).toArray 0)], p ∈ nw0 := fun p hp => by
           rw [hnw0]
           rcases List.mem_cons.mp hp with rfl | hp
           · exact .tail _ (.head _)
           · rw [List.mem_singleton.mp hp]; exact .head _
         have upZ : ∀ q ∈ K, q ∈ nw0 := fun q hq => by rw [hnw0]; exact .tail _ (.tail _ (up4 q hq))
         rw [← hnw0] at N7 hoff3
         have hin0 : ∀ a ∈ es, a ∈ Ns ∧ a.p ≠ [] ∧ a.p.dropLast = e.p := fun a ha => kidsOf_mem (hP.mem_iff.mp ha)
         refine zcl1O (names := ["one", "two"]) hh (SZ _ _ _) (fun i vals x => ∃ a b T ob, es[i]? = some a ∧ es[i + 1]? = some b ∧ vals = [.ref a.t, .ref b.t] ∧ x = [(T, ob)]) (fun i ys nw => nw0 = nw ∧ ys = []) ?_ ?_ (by exact rfl) (by decide) F7 N7 hO3 hoff3 ⟨rfl, rfl⟩ ?_ ?_
         · rintro i ys nw ⟨rfl, rfl⟩
           exact ⟨hneed, Nat.zero_le _⟩
         · rintro i v x t u ys nw hi' ⟨rfl, rfl⟩ ⟨T, vals, ob, rfl, rfl, ⟨y1, y2, hy1, hy2, rfl⟩, hc, z, hd⟩
           obtain ⟨a, ha, rfl⟩ : ∃ a, es[i]? = some a ∧ Value.ref a.t = y1 := by simpa using hy1
           obtain ⟨b, hb, rfl⟩ : ∃ b, es[i + 1]? = some b ∧ Value.ref b.t = y2 := by simpa [Nat.add_comm] using hy2
           exact ⟨_, ⟨a, b, T, ob, ha, hb, rfl, rfl⟩, .two (.head _) hc hd⟩
         · intro J' σ hJJ C D i vals x o m₃ oC ys nw h14 tk14 hi' HQ0 HQ1 ho hxx hnn hC F14 N14
           ((refine opq ?_); intro G' hG')
           obtain ⟨rfl, rfl⟩ := HQ0
           refine x4a4 HQ1 ?_; clear HQ1; rintro a b T ob ha hb rfl rfl
           ((with_reducible rename Opq _ _ => hG'); (refine hG' ?_); clear hG'; (try dsimp only))
           walk_at "zs"
           have inW : ∀ q ∈ K, q ∈ (C, oC) :: (D, listOf (List.toArray []) ([] : List Value).length) :: ([(T, ob)] ++ (o ++ nw0)) := fun q hq => .tail _ (.tail _ (List.mem_append_right _ (List.mem_append_right _ (upZ q hq))))
           have ain := hin0 a (List.mem_of_getElem? ha)
           have bin := hin0 b (List.mem_of_getElem? hb)
           refine x4a1 (hsz.1) ?_; rintro oc9 od9 fd9 sl9 Kq0
           have Kq := inW _ (oK _ Kq0)
           clear Kq0
           refine lcf_cell N14 (by rw [hca]; rfl) (inW _ cK) hoc ?_ rfl rfl
           walk_at "zs"
           refine KeyAt.use (keyAt_size hsz HB (fun q hq => inW q (oK q hq)) (fun q hq => inW q (rK q hq)) ain.1 hlen) (by exact .mk (Nat.le_of_ble_eq_true rfl) (Nat.le_of_ble_eq_true rfl) rfl rfl rfl (by assumption) (by assumption) (by assumption) (by assumption) (by assumption)) (by exact hh) F14 N14 ?_
           intro h15 tk15 t15 F15 N15
           clear F14 N14
           walk_at "zs"
           refine lcf_cell N15 (by rw [hca]; rfl) (inW _ cK) hoc ?_ rfl rfl
           walk_at "zs"
           refine KeyAt.use (keyAt_size hsz HB (fun q hq => inW q (oK q hq)) (fun q hq => inW q (rK q hq)) bin.1 hlen) (by exact .mk (Nat.le_of_ble_eq_true rfl) (Nat.le_of_ble_eq_true rfl) rfl rfl rfl (by assumption) (by assumption) (by assumption) (by assumption) (by assumption)) (by exact hh) F15 N15 ?_
           intro h16 tk16 t16 F16 N16
           clear F15 N15
           walk_at "zs"
           · refine x1a3 (HB.attr a ain.1 ain.2.1) ?_; rintro oa a1 a2 a3
             refine x1a3 (HB.attr b bin.1 bin.2.1) ?_; rintro ob' b1 b2 b3
             rename (kidK Ns a = kidK Ns b) => hkk
             have hle : a.nm ≤ b.nm := by
               rcases pw_next hS ha hb with q | ⟨_, q⟩
               · rw [hkk] at q; exact absurd q (Int.lt_irrefl _)
               · exact q
             refine (HB.node a ain.1).gAttrib N16 (fun q hq => inW q (sK q hq)) ?_
             walk_at "zs"
             refine item_str N16 (inW _ (sK _ a1)) a3 rfl ?_
             walk_at "zs"
             refine (HB.node b bin.1).gAttrib N16 (fun q hq => inW q (sK q hq)) ?_
             walk_at "zs"
             refine item_str N16 (inW _ (sK _ b1)) b3 rfl ?_
             walk_at "zs"
             rename Fr _ _ _ _ => F17
             rename News _ _ _ _ => N17
             exact CNext.intro hC F17 N17 (.head _) (.tail _ (.head _)) (fun p hp => .tail _ (.tail _ (List.mem_append_right [(T, ob)] (List.mem_append_left _ hp)))) (fun p hp => .tail _ (.tail _ (List.mem_append_right [(T, ob)] (List.mem_append_right o hp)))) hnn (hJJ _ _ _ ⟨rfl, rfl⟩)
           · refine CNext.intro hC F16 N16 (.head _) (.tail _ (.head _)) (fun p hp => .tail _ (.tail _ (List.mem_append_right [(T, ob)] (List.mem_append_left _ hp)))) (fun p hp => .tail _ (.tail _ (List.mem_append_right [(T, ob)] (List.mem_append_right o hp)))) hnn (hJJ _ _ _ ⟨rfl, rfl⟩)
         · rintro D ys nw hD ⟨rfl, rfl⟩
           intro h15 tk15 F15 N15
           clear F5 N5 F6 N6 F7 N7
           walk_at "zs"
           rename Fr _ _ _ _ => F16
           rename News _ _ _ _ => N16
           have rwm : (rw, listOf rowsV.toArray n) ∈ nw0 := by rw [hnw0, hbase]; exact .tail _ (.tail _ (List.mem_append_right _ (.head _)))
           refine PySem.Calls.getMethod_list_append (N16 _ (.tail _ (.tail _ rwm))).1 rfl rfl ?_
           walk_at "zs"
           have N16' : News _ _ _ nw0 := fun p hp => N16 p (.tail _ (.tail _ hp))
           refine append_led F16 N16' rwm (by have q1 := hR.1; rw [List.length_take] at q1; exact tk_len (kidsOf_len Ns []) q1 hlen) ?_
           intro h17 F17 N17
           walk_at "zs"
           (try dsimp only [ZTurn])
           rw [hbase] at hapD
           have hni : ∀ p ∈ o₁, p.1 ≠ rw := fun p hp q => hn₁ _ (.head _) (by rw [← q]; exact ho₁ p hp)
           have inN : ∀ q ∈ (kd, listOf (refsOf es).toArray nE) :: (o₁ ++ (tl, listOf #[] 0) :: Fz), q.1 ≠ rw → q ∈ upd rw (listOf (rowsV ++ [Value.ref kd]).toArray (n + 1)) nw0 := fun q hq hne => by
             refine upd_keep ?_ hne
             rw [hnw0, hbase]
             rcases List.mem_cons.mp hq with rfl | hq
             · exact .tail _ (.head _)
             · rcases List.mem_append.mp hq with hq | hq
               · exact .tail _ (.tail _ (List.mem_append_left _ hq))
               · exact .tail _ (.tail _ (List.mem_append_right _ (.tail _ hq)))
           refine ZNext.intro (news₂ := (rw, listOf (rowsV ++ [Value.ref kd]).toArray (n + 1)) :: (tl, listOf #[] 0) :: ((kd, listOf (refsOf es).toArray nE) :: Fz)) F17 (fun p hp => N17 p ?_) (fun p hp => ?_) (hJJ _ _ _ ⟨(kd, listOf (refsOf es).toArray nE) :: Fz, rowsV ++ [Value.ref kd], n + 1, rfl, fun q hq => .tail _ (hKF q hq), fun q hq => ?_, ?_, e2, e3, e4⟩)
           · rcases List.mem_append.mp hp with hp | hp
             · exact inN p (.tail _ (List.mem_append_left _ hp)) (hni p hp)
             · rcases List.mem_cons.mp hp with rfl | hp
               · exact .head _
               · rcases List.mem_cons.mp hp with rfl | hp
                 · exact inN _ (.tail _ (List.mem_append_right _ (.head _))) (Ne.symm hne)
                 · rcases List.mem_cons.mp hp with rfl | hp
                   · exact inN _ (.head _) (fun q => hapD _ (List.mem_append_right _ (.head _)) q.symm)
                   · exact inN p (.tail _ (List.mem_append_right _ (.tail _ hp))) (hapF p hp).1
           · rcases List.mem_cons.mp hp with rfl | hp
             · exact fun q => hn₁ _ (.head _) q
             · rcases List.mem_cons.mp hp with rfl | hp
               · exact hn₁ _ (.tail _ (.head _))
               · rcases List.mem_cons.mp hp with rfl | hp
                 · intro q
                   obtain ⟨ob, hob⟩ := (SL (.Name "" default) (zgoN I)).live _ _ hO₁ I (.head _)
                   exact hapD _ (List.mem_append_left _ hob) (List.mem_singleton.mp q).symm
                 · exact hn₁ p (.tail _ (.tail _ hp))
           · rcases List.mem_cons.mp hq with rfl | hq
             · exact ⟨fun q => hapD _ (List.mem_append_right _ (.head _)) q.symm, fun q => hapD _ (List.mem_append_right _ (.tail _ (.head _))) q.symm⟩
             · exact hapF q hq
           · rw [List.take_add_one, he]
             exact hR.snoc hS hP
     · clear F2 N2 hO hoff
       intro h' tk m' news' F3 N3 H
       walk_at "zs"
       rw [List.take_of_length_le (by simp)] at H
       refine hPP _ _ ?_
       exact ⟨rfl, _, _, _, _, rfl, F3, N3, H⟩
   · intro f s' H
     ((refine opq ?_); intro G' hG')
     obtain ⟨rfl, h', tk, m', data, rfl, F1, N1, H3⟩ := H
     obtain ⟨Fz, rowsV, n, rfl, hKF, hapF, hR, e2, e3, e4⟩ := H3
     ((with_reducible rename Opq _ _ => hG'); (refine hG' ?_); clear hG'; (try dsimp only))
     clear N F hap
     have up : ∀ q ∈ K, q ∈ (rw, listOf rowsV.toArray n) :: Fz := fun q hq => .tail _ (hKF q hq)
     obtain ⟨G, hG⟩ : ∃ G, G = (rw, listOf rowsV.toArray n) :: Fz := ⟨_, rfl⟩
     have hGt : ∀ q ∈ G, q.1 ≠ tl := fun q hq => by
       rw [hG] at hq
       rcases List.mem_cons.mp hq with rfl | hq
       · exact hne
       · exact (hapF q hq).2
     have N2 : News _ _ _ ((tl, listOf #[] 0) :: G) := fun p hp => N1 p (by
       rw [hG] at hp
       rcases List.mem_cons.mp hp with rfl | hp
       · exact .tail _ (.head _)
       · rcases List.mem_cons.mp hp with rfl | hp
         · exact .head _
         · exact .tail _ (.tail _ hp))
     rw [← hG] at up
     have rowM : (rw, listOf rowsV.toArray n) ∈ G := by rw [hG]; exact .head _
     have hRG : RowsAre Ns G (kidsOf Ns []) rowsV := hR.more fun q hq => by rw [hG]; exact .tail _ hq
     clear hG hKF hapF hR N1
     refine stmt_firstO F1 (T6 Ns G rw tl zc s) ?_ ?_
     · intro P' E' hPP _
       refine wpAny_For ?_
       walk_at "zs"
       rename IsRange _ _ _ _ _ _ _ _ => hR
       rename Fr _ _ _ _ => F2
       rename News _ _ _ _ => N3
       refine zrange (n := 3) hh F2 N3 hR (by decide) (by decide) ?_
       intro I o O h4 SR hO hoff hown F4 N4
       clear hR F2 N3
       refine zforR (SR _ _) (fun i m data => T7 Ns G rw tl zc i m data) (fun _ _ _ _ _ hp => nomatch hp) F4 N4 hO hoff
         ⟨[], 0, G, rfl, fun q hq => hq, hGt, ⟨rfl, fun _ _ h => nomatch h⟩, e2, e3, e4⟩ ?_ ?_
       · clear F4 N4 hO hoff e2 e3 e4
         intro J' R' σ hJJ j tv o₁ m₁ data h₁ tk₁ hj HQ0 hO₁ ho₁ hn₁ F5 N5
         ((refine opq ?_); intro G' hG')
         obtain ⟨takenV, nT, Z, rfl, hGZ, hZt, hT, e2, e3, e4⟩ := HQ0
         ((with_reducible rename Opq _ _ => hG'); (refine hG' ?_); clear hG'; (try dsimp only))
         walk_at "zs"
         rename Addr => fl
         rename (∀ p ∈ [] ++ _, @LT.lt Nat _ _ _) => hl6
         rename Fr _ _ _ _ => F6
         rename News _ _ _ _ => N6
         simp only [List.nil_append] at N6
         obtain ⟨base, hbase⟩ : ∃ B, B = o₁ ++ (tl, listOf takenV.toArray nT) :: Z := ⟨_, rfl⟩
         have hl6' : ∀ p ∈ base, @LT.lt Nat _ p.1 fl := fun p hp => hl6 p (by rw [hbase] at hp; exact hp)
         have gb : ∀ q ∈ G, q ∈ base := fun q hq => by rw [hbase]; exact List.mem_append_right _ (.tail _ (hGZ q hq))
         rw [← hbase] at N6
         clear hl6
         refine stmt_firstNO F6 N6 (T8 base rw tl zc j tv (cntsOf Ns j) σ) ?_ ?_
         · intro P' E' hPP _
           refine wpAny_For ?_
           walk_at "zs"
           rename Fr _ _ _ _ => F7
           rename News _ _ _ _ => N7
           refine zenum hh F7 N7 (.tail _ (gb _ rowM)) ?_
           intro I2 ow2 o2 O2 h8 SE hO2 hoff2 hown2 F8 N8
           walk_at "zs"
           rename Fr _ _ _ _ => F9
           rename News _ _ _ _ => N9
           refine (SE [] 0 default).self 0 o2 _ _ _ _ _ _ hO2 (fun p hp => by rw [List.mem_singleton.mp hp]; exact .tail _ (gb _ rowM)) N9 ?_
           refine zforE (SE _ _ _) (fun i m data2 => T9 base fl rw tl zc j tv ((cntsOf Ns j).take i) m data2) (fun i m data2 hJ p hp => by obtain ⟨fs, fv, nF, Y, rfl, _⟩ := hJ; rw [List.mem_singleton.mp hp]; exact .tail _ (List.mem_append_right _ (gb _ rowM))) F9 N9 hO2 hoff2
             ⟨[], [], 0, [], rfl, fun _ h => (nomatch h), ⟨rfl, fun _ _ h => nomatch h⟩, .nil, List.Perm.refl _, by walk_at "zlook", by walk_at "zlook", by walk_at "zlook", by walk_at "zlook", by walk_at "zlook"⟩ ?_ ?_
           · clear F9 N9 hO2 hoff2 e2 e3 e4
             intro J' R' σ hJJ i T ob ti y z o₃ m₃ data2 h₃ tk₃ hi HQ0 hy hc hd hO₃ ho₃ hn₂ F10 N10
             ((refine opq ?_); intro G' hG')
             obtain ⟨fs, fv, nF, Y, rfl, hYf, hF, hS, hP, e1, e2, e3, e4, e5⟩ := HQ0
             ((with_reducible rename Opq _ _ => hG'); (refine hG' ?_); clear hG'; (try dsimp only))
             have hy' : rowsV[i]? = some y := by simpa using hy
             obtain ⟨e, he⟩ : ∃ e, (kidsOf Ns [])[i]? = some e := ⟨_, List.getElem?_eq_getElem (by rw [← hRG.1]; exact (List.getElem?_eq_some_iff.mp hy').1)⟩
             refine x3a4 (hRG.2 i e he) ?_; rintro D es nE h1 h2 hSe hPe
             obtain rfl : y = .ref D := Option.some.inj (hy'.symm.trans h1)
             obtain ⟨k1, k2, k3⟩ := kidsOf_mem (List.mem_of_getElem? he)
             refine zunp hh F10 N10 (.head _) hc hd rfl rfl fun h11 F11 N11 => ?_
             clear F10 N10
             walk_at "zs"
             rename Fr _ _ _ _ => F12
             rename News _ _ _ _ => N12
             have ub : ∀ q ∈ base, q ∈ [(T, ob)] ++ (o₃ ++ (fl, listOf fv.toArray nF) :: (Y ++ base)) := fun q hq => List.mem_append_right [(T, ob)] (List.mem_append_right o₃ (.tail _ (List.mem_append_right Y hq)))
             have uK : ∀ q ∈ K, q ∈ [(T, ob)] ++ (o₃ ++ (fl, listOf fv.toArray nF) :: (Y ++ base)) := fun q hq => ub q (gb q (up q hq))
             have hin : ∀ a ∈ es, a ∈ Ns := fun a ha => (kidsOf_mem (hPe.mem_iff.mp ha)).1
             refine nameX_C N12 (by rw [hca]; rfl) (uK _ cK) hoc ?_
             walk_at "zs"
             refine bisL2_ok (by exact .mk (Nat.le_of_ble_eq_true rfl) (Nat.le_of_ble_eq_true rfl) rfl rfl rfl (by assumption) (by assumption) (by assumption) (by assumption) (by assumption)) hh F12 N12 (ub _ (gb _ h2)) (by simp; have := hPe.length_eq; have := kidsOf_len Ns e.p; omega) (keyOn_size hsz HB (fun q hq => uK q (oK q hq)) (fun q hq => uK q (rK q hq)) hin hlen) hSe.rises ?_
             intro h13 tk13 t13 r F13 N13 hr1 hr2
             rw [zi] at hr2
             have hrr := row_bis hPe hr1 hr2
             walk_at "zs"
             rename (∀ p ∈ [(T, ob)] ++ _, @LT.lt Nat _ _ _) => hl14
             rename Addr => T2
             rename Fr _ _ _ _ => F14
             rename News _ _ _ _ => N14
             have N15 := news_fall N14
             have ub2 : ∀ (x q : Addr × Obj), q ∈ base → q ∈ (fl, listOf fv.toArray nF) :: (x :: (o₃ ++ (Y ++ base))) := fun x q hq => .tail _ (.tail _ (List.mem_append_right o₃ (List.mem_append_right Y hq)))
             have uK2 := fun x q hq => ub2 x q (gb q (up q hq))
             refine insL_ok (ks := fs.map fallK) (kx := -(r : Int)) (by exact .mk (Nat.le_of_ble_eq_true rfl) (Nat.le_of_ble_eq_true rfl) rfl rfl rfl (by assumption) (by assumption) (by assumption) (by assumption) (by assumption)) hh F14 N15 (fun p hp => ?_) (by rw [hF.1]; have q1 := hP.length_eq; rw [List.length_zipIdx, List.length_take] at q1; unfold cntsOf at q1; rw [List.length_map] at q1; exact tk_len (kidsOf_len Ns []) q1 hlen)
               (keyOn_count hct (fun q hq => uK2 _ q (oK q hq)) hF (fun q hq => .tail _ (.tail _ (List.mem_append_right o₃ (List.mem_append_left _ hq))))) (hct.2 _ T2 r _ (.int i ti) _ (fun q hq => uK2 _ q (oK q hq)) (.tail _ (.head _))) hS.rises ?_
             · rcases List.mem_cons.mp hp with rfl | hp
               · exact Nat.ne_of_gt (hl14 _ (List.mem_append_right [(T, ob)] (List.mem_append_right o₃ (.head _))))
               · rcases List.mem_append.mp hp with hp | hp
                 · exact fun q => hn₂ _ (.head _) (by rw [← q]; exact ho₃ p hp)
                 · rcases List.mem_append.mp hp with hp | hp
                   · exact hYf p hp
                   · exact Nat.ne_of_lt (hl6' p hp)
             intro h16 tk16 n' F16 N16 hn1 hn2
             walk_at "zs"
             (try dsimp only [ZTurn])
             have hq : ∀ a ∈ fs, a.2 ≤ i := fun a ha => Nat.le_of_lt (zip_lt (hP.mem_iff.mp ha))
             have hfs : n' ≤ fs.length := by rw [List.length_map] at hn1; exact hn1
             refine ZNext.intro F16 (news_dim3 N16) (fun p hp => ?_) (hJJ _ _ _ ⟨fs.take n' ++ (r, i) :: fs.drop n', _, nF + 1, (T2, _) :: Y, rfl, fun q hq => ?_, (hF.more fun q hq => .tail _ hq).ins hfs (.head _), hS.insL (x := (r, i)) hn2 hq, ?_, by walk_at "zlook", by walk_at "zlook", by walk_at "zlook", by walk_at "zlook", by walk_at "zlook"⟩)
             · rcases List.mem_cons.mp hp with rfl | hp
               · exact fun q => hn₂ _ (.head _) q
               · rcases List.mem_cons.mp hp with rfl | hp
                 · intro q
                   obtain ⟨ob2, hob⟩ := (SE [] 0 default).live _ _ hO₃ T2 q
                   exact Nat.lt_irrefl _ (hl14 _ (List.mem_append_right [(T, ob)] (List.mem_append_left _ hob)))
                 · exact hn₂ p (.tail _ hp)
             · rcases List.mem_cons.mp hq with rfl | hq
               · exact Nat.ne_of_gt (hl14 _ (List.mem_append_right [(T, ob)] (List.mem_append_right o₃ (.head _))))
               · exact hYf q hq
             · rw [zip_take (cnts_at he), ← hrr]
               exact (ins_perm fs (r, i) n').trans (hP.append_right _)
           · intro h' tk m' news' F7 N7 H
             walk_at "zs"
             rw [List.take_of_length_le (by unfold cntsOf; rw [List.length_map, List.size_toArray, hRG.1]; exact Nat.le_refl _)] at H
             refine hPP _ _ ?_
             exact ⟨rfl, _, _, _, _, rfl, F7, N7, fun q hq => Nat.ne_of_lt (hl6' q hq), H⟩
         · intro f s' H
           obtain ⟨D, hD⟩ : ∃ D, D = fl := ⟨_, rfl⟩
           rw [← hD] at H
           ((refine opq ?_); intro G' hG')
           obtain ⟨rfl, h', tk, m', data, rfl, F7, N7, hapB, H9⟩ := H
           obtain ⟨fs, fv, nF, Y, rfl, hYf, hF, hS, hP, e1, e2, e3, e4, e5⟩ := H9
           ((with_reducible rename Opq _ _ => hG'); (refine hG' ?_); clear hG'; (try dsimp only))
           clear hD F6 N6 hl6'
           refine wpAny_execs_cons ?_
           walk_at "zs"
           refine zcompF F7 (by exact rfl) (by decide) (by exact rfl) (by decide) ?_
           walk_at "zs"
           have hfl : fs.length ≤ 100 := by
             have := hP.length_eq
             rw [List.length_zipIdx] at this
             have := kidsOf_len Ns []
             unfold cntsOf at *
             rw [List.length_map] at *
             omega
           refine slice1 (s := ⟨_, _, _, _, _⟩) F7 N7 (.head _) (by rw [hF.1]; omega) ?_
           intro D1 h6 F6 N6 hD1
           walk_at "zs"
           refine zzip hh F6 N6 (.tail _ (.head _)) (.head _) ?_
           intro I3 ow3 o3 O3 h7 SZ hO3 hoff3 hown3 F8 N8
           walk_at "zs"
           refine (SZ [] 0 default).self 0 o3 _ _ _ _ _ _ hO3 (fun p hp => ?_) N8 ?_
           · rcases List.mem_cons.mp hp with rfl | hp
             · exact .tail _ (.head _)
             · rw [List.mem_singleton.mp hp]; exact .head _
           obtain ⟨nw0, hnw0⟩ : ∃ Z, Z = (D1, listOf (fv.drop 1).toArray 0) :: (D, listOf fv.toArray nF) :: (Y ++ base) := ⟨_, rfl⟩
           have hneed : ∀ p ∈ [(D, listOf fv.toArray nF), (D1, listOf (fv.drop 1).toArray 0)], p ∈ nw0 := fun p hp => by
             rw [hnw0]
             rcases List.mem_cons.mp hp with rfl | hp
             · exact .tail _ (.head _)
             · rw [List.mem_singleton.mp hp]; exact .head _
           have upY : ∀ q ∈ Y, q ∈ nw0 := fun q hq => by rw [hnw0]; exact .tail _ (.tail _ (List.mem_append_left _ hq))
           have upB : ∀ q ∈ base, q ∈ nw0 := fun q hq => by rw [hnw0]; exact .tail _ (.tail _ (List.mem_append_right _ hq))
           have upD : (D, listOf fv.toArray nF) ∈ nw0 := by rw [hnw0]; exact .tail _ (.head _)
           rw [← hnw0] at N8 hoff3
           refine zcl1O (names := ["one", "two"]) hh (SZ _ _ _) (fun i vals x => ∃ p q Ta Tb a b z a' b' z' T ob, fs[i]? = some p ∧ fs[i + 1]? = some q ∧ (Ta, tupO #[Value.int p.1 a, Value.int p.2 b] z) ∈ Y ∧ (Tb, tupO #[Value.int q.1 a', Value.int q.2 b'] z') ∈ Y ∧ vals = [.ref Ta, .ref Tb] ∧ x = [(T, ob)]) (fun i ys nw => nw0 = nw ∧ ys = []) ?_ ?_ (by exact rfl) (by decide) F8 N8 hO3 hoff3 ⟨rfl, rfl⟩ ?_ ?_
           · rintro i ys nw ⟨rfl, rfl⟩
             exact ⟨hneed, Nat.zero_le _⟩
           · rintro i v x t u ys nw hi' ⟨rfl, rfl⟩ ⟨T, vals, ob, rfl, rfl, ⟨y1, y2, hy1, hy2, rfl⟩, hc, z, hd⟩
             have hy1' : fv[i]? = some y1 := by simpa using hy1
             have hy2' : fv[i + 1]? = some y2 := by simpa [Nat.add_comm] using hy2
             obtain ⟨p, hp⟩ : ∃ p, fs[i]? = some p := ⟨_, List.getElem?_eq_getElem (by rw [← hF.1]; exact (List.getElem?_eq_some_iff.mp hy1').1)⟩
             obtain ⟨q, hq⟩ : ∃ q, fs[i + 1]? = some q := ⟨_, List.getElem?_eq_getElem (by rw [← hF.1]; exact (List.getElem?_eq_some_iff.mp hy2').1)⟩
             refine x4a2 (hF.2 i p hp) ?_; rintro Ta a b z h1 h2
             refine x4a2 (hF.2 (i + 1) q hq) ?_; rintro Tb a' b' z' h1' h2'
             obtain rfl := Option.some.inj (hy1'.symm.trans h1)
             obtain rfl := Option.some.inj (hy2'.symm.trans h1')
             exact ⟨_, ⟨p, q, Ta, Tb, a, b, z, a', b', z', T, ob, hp, hq, h2, h2', rfl, rfl⟩, .two (.head _) hc hd⟩
           · intro J' σ hJJ C D2 i vals x o m₃ oC ys nw h14 tk14 hi' HQ0 HQ1 ho hxx hnn hC F14 N14
             ((refine opq ?_); intro G' hG')
             obtain ⟨rfl, rfl⟩ := HQ0
             obtain ⟨p, q, Ta, Tb, a, b, z, a', b', z', T, ob, hp, hq, mA, mB, rfl, rfl⟩ := HQ1
             ((with_reducible rename Opq _ _ => hG'); (refine hG' ?_); clear hG'; (try dsimp only))
             have inA : (Ta, tupO #[Value.int p.1 a, Value.int p.2 b] z) ∈ (C, oC) :: (D2, listOf (List.toArray []) ([] : List Value).length) :: ([(T, ob)] ++ (o ++ nw0)) := .tail _ (.tail _ (List.mem_append_right [(T, ob)] (List.mem_append_right o (upY _ mA))))
             have inB : (Tb, tupO #[Value.int q.1 a', Value.int q.2 b'] z') ∈ (C, oC) :: (D2, listOf (List.toArray []) ([] : List Value).length) :: ([(T, ob)] ++ (o ++ nw0)) := .tail _ (.tail _ (List.mem_append_right [(T, ob)] (List.mem_append_right o (upY _ mB))))
             have hst : p.1 = q.1 → q.2 ≤ p.2 := fun e => by
               rcases pw_next hS hp hq with k | ⟨_, k⟩
               · exact absurd k (by show ¬ (-(p.1 : Int) < -(q.1 : Int)); omega)
               · exact k
             walk_at "zs"
             refine item_tupleT (k := 0) (j := 0) (l := [.int p.1 a, .int p.2 b]) ⟨_, (N14 _ inA).1, rfl, _, rfl⟩ (by decide) (by decide) rfl rfl ?_
             walk_at "zs"
             refine item_tupleT (k := 0) (j := 0) (l := [.int q.1 a', .int q.2 b']) ⟨_, (N14 _ inB).1, rfl, _, rfl⟩ (by decide) (by decide) rfl rfl ?_
             walk_at "zs"
             · rename ((p.1 : Int) = (q.1 : Int)) => hpq
               have hle := hst (Int.ofNat.inj hpq)
               clear hst
               refine item_tupleT (k := 1) (j := 1) (l := [.int p.1 a, .int p.2 b]) ⟨_, (N14 _ inA).1, rfl, _, rfl⟩ (by decide) (by decide) rfl rfl ?_
               walk_at "zs"
               refine item_tupleT (k := 1) (j := 1) (l := [.int q.1 a', .int q.2 b']) ⟨_, (N14 _ inB).1, rfl, _, rfl⟩ (by decide) (by decide) rfl rfl ?_
               walk_at "zs"
               rename Fr _ _ _ _ => F17
               rename News _ _ _ _ => N17
               exact CNext.intro hC F17 N17 (.head _) (.tail _ (.head _)) (fun p hp => .tail _ (.tail _ (List.mem_append_right [(T, ob)] (List.mem_append_left _ hp)))) (fun p hp => .tail _ (.tail _ (List.mem_append_right [(T, ob)] (List.mem_append_right o hp)))) hnn (hJJ _ _ _ ⟨rfl, rfl⟩)
             · rename Fr _ _ _ _ => F17
               rename News _ _ _ _ => N17
               exact CNext.intro hC F17 N17 (.head _) (.tail _ (.head _)) (fun p hp => .tail _ (.tail _ (List.mem_append_right [(T, ob)] (List.mem_append_left _ hp)))) (fun p hp => .tail _ (.tail _ (List.mem_append_right [(T, ob)] (List.mem_append_right o hp)))) hnn (hJJ _ _ _ ⟨rfl, rfl⟩)
           · rintro D2 ys nw hD ⟨rfl, rfl⟩
             intro h15 tk15 F15 N15
             clear F7 N7 F6 N6 F8 N8
             walk_at "zs"
             rename Fr _ _ _ _ => F16
             rename News _ _ _ _ => N16
             have N17 : News _ _ _ nw0 := fun p hp => N16 p (.tail _ (.tail _ hp))
             clear N16
             obtain ⟨X, hX⟩ : ∃ X, X = (D, listOf fv.toArray nF) :: Y.filter fun q => decide (q.1 ≠ tl) := ⟨_, rfl⟩
             have tlB : (tl, listOf takenV.toArray nT) ∈ base := by rw [hbase]; exact List.mem_append_right _ (.head _)
             have tlN : (tl, listOf takenV.toArray nT) ∈ nw0 := upB _ tlB
             have hDt : D ≠ tl := fun q => hapB _ tlB q.symm
             have hXt : ∀ q ∈ X, q.1 ≠ tl := fun q hq => by
               rw [hX] at hq
               rcases List.mem_cons.mp hq with rfl | hq
               · exact hDt
               · exact of_decide_eq_true (List.mem_filter.mp hq).2
             have hXn : ∀ q ∈ X, q ∈ nw0 := fun q hq => by
               rw [hX] at hq
               rcases List.mem_cons.mp hq with rfl | hq
               · exact upD
               · exact upY _ (List.mem_filter.mp hq).1
             have hXD : (D, listOf fv.toArray nF) ∈ X := by rw [hX]; exact .head _
             have hFX : FallIs X fs fv := ⟨hF.1, fun i q hq => by
               refine x4a2 (hF.2 i q hq) ?_; rintro T a b z h1 h2
               refine ⟨T, a, b, z, h1, ?_⟩
               rw [hX]
               refine .tail _ (List.mem_filter.mpr ⟨h2, decide_eq_true fun e => ?_⟩)
               have g1 := (N17 _ (upY _ h2)).1
               have g2 := (N17 _ tlN).1
               rw [show T = tl from e, g2] at g1
               have := congrArg Obj.cls (Option.some.inj g1)
               exact absurd (show Value.type "list" = Value.type "tuple" from this) (by decide)⟩
             have N18 : News _ _ _ ((tl, listOf takenV.toArray nT) :: (o₁ ++ (X ++ Z))) := fun p hp => N17 p (by
               rcases List.mem_cons.mp hp with rfl | hp
               · exact tlN
               · rcases List.mem_append.mp hp with hp | hp
                 · exact upB _ (by rw [hbase]; exact List.mem_append_left _ hp)
                 · rcases List.mem_append.mp hp with hp | hp
                   · exact hXn p hp
                   · exact upB _ (by rw [hbase]; exact List.mem_append_right _ (.tail _ hp)))
             have hZI : ∀ q ∈ Z, q.1 ≠ tl ∧ q.1 ∉ [I] := fun q hq => ⟨hZt q hq, hn₁ q (.tail _ hq)⟩
             have htI : tl ∉ [I] := fun q => hn₁ _ (.head _) q
             clear N17 hnw0 hneed upY upB upD hXn tlN hapB hYf hF hD1 hoff3 hO3 hown3
             (with_reducible refine wpAny_execs_cons (blind ?_)); intro _ _; refine wpAny_For ?_
             walk_at "zs"
             rename IsRange _ _ _ _ _ _ _ _ => hR
             rename Fr _ _ _ _ => F18
             rename News _ _ _ _ => N19
             refine zrange (n := 3) hh F18 N19 hR (by decide) (by decide) ?_
             intro I5 o5 O5 h19 SR5 hO5 hoff5 hown5 F20 N20
             clear hR F18 N19
             refine zforR (SR5 _ _) (fun k m data3 => T10 Z I o₁ X (takeJ (pileN Ns) j ++ takeK (pileN Ns) j k) D rw tl zc j tv m data3) (fun _ _ _ _ _ hp => nomatch hp) F20 N20 hO5 hoff5
               ⟨takenV, nT, Z, rfl, fun q hq => hq, hZI, by rw [show takeK (pileN Ns) j 0 = [] from rfl, List.append_nil]; exact hT, e1, e2, e3, e4, e5⟩ ?_ ?_
             · clear F20 N20 hO5 hoff5 hT e1 e2 e3 e4 e5
               intro J' R' σ hJJ k tv2 o₆ m₃ data3 h₃ tk₃ hk HQ0 hO₆ ho₆ hn₆ F21 N21
               ((refine opq ?_); intro G' hG')
               obtain ⟨takenV, nT, Z2, rfl, hZ2, hZt2, hT, e1, e2, e3, e4, e5⟩ := HQ0
               ((with_reducible rename Opq _ _ => hG'); (refine hG' ?_); clear hG'; (try dsimp only))
               simp only [List.nil_append] at N21
               walk_at "zs"
               (with_reducible refine wpAny_execs_cons (blind ?_)); intro _ _; refine wpAny_For ?_
               walk_at "zs"
               rename Fr _ _ _ _ => F22
               rename News _ _ _ _ => N22
               refine add_ok (by exact .mk (Nat.le_of_ble_eq_true rfl) (Nat.le_of_ble_eq_true rfl) rfl rfl rfl (by assumption) (by assumption) (by assumption) (by assumption) (by assumption)) F22 N22 ?_
               intro h23 tk23 t23 F23 N23
               clear F22 N22
               walk_at "zs"
               have upX : ∀ q ∈ X ++ Z2, q ∈ o₆ ++ (tl, listOf takenV.toArray nT) :: (o₁ ++ (X ++ Z2)) := fun q hq => List.mem_append_right _ (.tail _ (List.mem_append_right _ hq))
               have oZ : ∀ q ∈ own, q ∈ o₆ ++ (tl, listOf takenV.toArray nT) :: (o₁ ++ (X ++ Z2)) := fun q hq => upX q (List.mem_append_right _ (hZ2 q (hGZ q (up q (oK q hq)))))
               refine bisR2_ok (by exact .mk (Nat.le_of_ble_eq_true rfl) (Nat.le_of_ble_eq_true rfl) rfl rfl rfl (by assumption) (by assumption) (by assumption) (by assumption) (by assumption)) hh F23 N23 (upX _ (List.mem_append_left _ hXD)) (by rw [hFX.1]; omega) (keyOn_count hct oZ hFX fun q hq => upX q (List.mem_append_left _ hq)) hS.rises ?_
               intro h24 tk24 t24 r F24 N24 hr1 hr2
               rw [zi] at hr2
               have hrr := pile_bis hP hr1 hr2
               have hr100 : r ≤ 100 := by rw [hrr]; exact Nat.le_trans (pileN_le Ns j k) hlen
               clear F23 N23
               walk_at "zs"
               rename IsRange _ _ _ _ _ _ _ _ => hR
               rename Fr _ _ _ _ => F25
               rename News _ _ _ _ => N25
               refine zrange (n := r) hh F25 N25 hR (range1_small r hr100) (range1_size r hr100) ?_
               intro I7 o7 O7 h26 SR7 hO7 hoff7 hown7 F26 N26
               clear hR F25 N25
               refine zforR (SR7 _ _) (fun l m data4 => T11 Z I I5 o₆ o₁ X (takeJ (pileN Ns) j ++ takeK (pileN Ns) j k ++ takeL j k l) D rw tl zc j k tv tv2 m data4) (fun _ _ _ _ _ hp => nomatch hp) F26 N26 hO7 hoff7
                 ⟨takenV, nT, Z2, rfl, hZ2, fun q hq => ⟨(hZt2 q hq).1, (hZt2 q hq).2, hn₆ q (.tail _ (List.mem_append_right _ (List.mem_append_right _ hq)))⟩, by rw [show takeL j k 0 = [] from rfl, List.append_nil]; exact hT, by walk_at "zlook", by walk_at "zlook", by walk_at "zlook", by walk_at "zlook", by walk_at "zlook", by walk_at "zlook"⟩ ?_ ?_
               · clear F26 N26 hO7 hoff7 hT e1 e2 e3 e4 e5 oZ upX hZt2 hZ2
                 intro J' R' σ hJJ l tv3 o₈ m₃ data4 h₃ tk₃ hl HQ0 hO₈ ho₈ hn₈ F27 N27
                 ((refine opq ?_); intro G' hG')
                 obtain ⟨takenV, nT, Z2, rfl, hZ2, hZt2, hT, e1, e2, e2k, e3, e4, e5⟩ := HQ0
                 ((with_reducible rename Opq _ _ => hG'); (refine hG' ?_); clear hG'; (try dsimp only))
                 simp only [List.nil_append] at F27 N27
                 walk_at "zs"
                 rename Fr _ _ _ _ => F28
                 rename News _ _ _ _ => N28
                 have mtl : (tl, listOf takenV.toArray nT) ∈ o₈ ++ (o₆ ++ (tl, listOf takenV.toArray nT) :: (o₁ ++ (X ++ Z2))) := List.mem_append_right _ (List.mem_append_right _ (.head _))
                 refine PySem.Calls.getMethod_list_append (N28 _ mtl).1 rfl rfl ?_
                 refine callWith_tup ?_
                 walk_at "zs"
                 rename Addr => T3
                 rename (∀ p ∈ o₈ ++ _, @LT.lt Nat _ _ _) => hl29
                 rename Fr _ _ _ _ => F29
                 rename News _ _ _ _ => N29
                 have hcap : ∀ a c, pileN Ns a c ≤ 100 := fun a c => Nat.le_trans (pileN_le Ns a c) hlen
                 have hlT : takenV.length ≤ 1000 := by
                   rw [hT.1, List.length_append, List.length_append, takeL_len]
                   have g1 := takeJ_len hcap j
                   have g2 := takeK_len hcap j k
                   omega
                 refine append_led F29 N29 (.tail _ mtl) hlT ?_
                 intro h30 F30 N30
                 clear F29 N29
                 walk_at "zs"
                 (try dsimp only [ZTurn])
                 have n8 : ∀ p ∈ o₈, p.1 ≠ tl := fun p hp q => hn₈ _ (List.mem_append_right _ (.head _)) (by rw [← q]; exact ho₈ p hp)
                 have n6 : ∀ p ∈ o₆, p.1 ≠ tl := fun p hp q => hn₆ _ (.head _) (by rw [← q]; exact ho₆ p hp)
                 have n1 : ∀ p ∈ o₁, p.1 ≠ tl := fun p hp q => htI (by rw [← q]; exact ho₁ p hp)
                 obtain ⟨ob1, l1⟩ := (SR "" default).live _ _ hO₁ I (.head _)
                 obtain ⟨ob5, l5⟩ := (SR5 "" default).live _ _ hO₆ I5 (.head _)
                 obtain ⟨ob7, l7⟩ := (SR7 "" default).live _ _ hO₈ I7 (.head _)
                 have g1 : @LT.lt Nat _ I T3 := hl29 _ (List.mem_append_right _ (List.mem_append_right _ (.tail _ (List.mem_append_left _ l1))))
                 have g5 : @LT.lt Nat _ I5 T3 := hl29 _ (List.mem_append_right _ (List.mem_append_left _ l5))
                 have g7 : @LT.lt Nat _ I7 T3 := hl29 _ (List.mem_append_left _ l7)
                 have gt : @LT.lt Nat _ tl T3 := hl29 _ mtl
                 have keep : ∀ p ∈ o₈ ++ (o₆ ++ (tl, listOf takenV.toArray nT) :: (o₁ ++ (X ++ Z2))), p.1 ≠ tl → _ := fun p hp hne => N30 p (upd_keep (.tail _ hp) hne)
                 obtain ⟨tO, htO⟩ : ∃ o : Obj, o = tupO #[Value.int ((0 : Int) + j * 1) tv, Value.int ((0 : Int) + k * 1) tv2, Value.int ((0 : Int) + l * 1) tv3] 0 := ⟨_, rfl⟩
                 have n30 := N30 (T3, tO) (by rw [htO]; exact upd_keep (.head _) (Nat.ne_of_gt gt))
                 refine ZNext.intro (news₂ := o₆ ++ (tl, listOf (takenV ++ [Value.ref T3]).toArray (nT + 1)) :: (o₁ ++ (X ++ (T3, tO) :: Z2))) F30 (fun p hp => ?_) (fun p hp => ?_)
                   (hJJ _ _ _ ⟨takenV ++ [Value.ref T3], nT + 1, (T3, tO) :: Z2, rfl, fun q hq => .tail _ (hZ2 q hq), fun q hq => ?_, ?_, by walk_at "zlook", by walk_at "zlook", by walk_at "zlook", by walk_at "zlook", by walk_at "zlook", by walk_at "zlook"⟩)
                 · rcases List.mem_append.mp hp with hp | hp
                   · exact keep p (List.mem_append_left _ hp) (n8 p hp)
                   · rcases List.mem_append.mp hp with hp | hp
                     · exact keep p (List.mem_append_right _ (List.mem_append_left _ hp)) (n6 p hp)
                     · rcases List.mem_cons.mp hp with rfl | hp
                       · exact N30 _ (.head _)
                       · rcases List.mem_append.mp hp with hp | hp
                         · exact keep p (List.mem_append_right _ (List.mem_append_right _ (.tail _ (List.mem_append_left _ hp)))) (n1 p hp)
                         · rcases List.mem_append.mp hp with hp | hp
                           · exact keep p (List.mem_append_right _ (List.mem_append_right _ (.tail _ (List.mem_append_right _ (List.mem_append_left _ hp))))) (hXt p hp)
                           · rcases List.mem_cons.mp hp with rfl | hp
                             · exact n30
                             · exact keep p (List.mem_append_right _ (List.mem_append_right _ (.tail _ (List.mem_append_right _ (List.mem_append_right _ hp))))) (hZt2 p hp).1
                 · rcases List.mem_append.mp hp with hp | hp
                   · exact hn₈ p (List.mem_append_left _ hp)
                   · rcases List.mem_cons.mp hp with rfl | hp
                     · exact fun q => hn₈ _ (List.mem_append_right _ (.head _)) q
                     · rcases List.mem_append.mp hp with hp | hp
                       · exact hn₈ p (List.mem_append_right _ (.tail _ (List.mem_append_left _ hp)))
                       · rcases List.mem_append.mp hp with hp | hp
                         · exact hn₈ p (List.mem_append_right _ (.tail _ (List.mem_append_right _ (List.mem_append_left _ hp))))
                         · rcases List.mem_cons.mp hp with rfl | hp
                           · exact fun q => Nat.ne_of_gt g7 (List.mem_singleton.mp q)
                           · exact hn₈ p (List.mem_append_right _ (.tail _ (List.mem_append_right _ (List.mem_append_right _ hp))))
                 · rcases List.mem_cons.mp hq with rfl | hq
                   · exact ⟨Nat.ne_of_gt gt, fun q => Nat.ne_of_gt g1 (List.mem_singleton.mp q), fun q => Nat.ne_of_gt g5 (List.mem_singleton.mp q)⟩
                   · exact hZt2 q hq
                 · rw [takeL_succ, ← List.append_assoc, htO]
                   exact hT.snoc (t := (j, k, l)) (idx1 j) (idx1 k) (idx1 l)
               · intro h' tk m' news' F27 N27 H
                 ((refine opq ?_); intro G' hG')
                 obtain ⟨takenV, nT, Z2, rfl, hZ2, hZt2, hT, e1, e2, e2k, e3, e4, e5⟩ := H
                 ((with_reducible rename Opq _ _ => hG'); (refine hG' ?_); clear hG'; (try dsimp only))
                 walk_at "zs"
                 (try dsimp only [ZTurn])
                 rw [hrr, List.append_assoc, ← takeK_succ] at hT
                 refine ZNext.intro (news₂ := (tl, listOf takenV.toArray nT) :: (o₁ ++ (X ++ Z2))) F27 N27 (fun p hp => ?_) (hJJ _ _ _ ⟨takenV, nT, Z2, rfl, hZ2, fun q hq => ⟨(hZt2 q hq).1, (hZt2 q hq).2.1⟩, hT, e1, e2, e3, e4, e5⟩)
                 rcases List.mem_cons.mp hp with rfl | hp
                 · exact fun q => hn₆ _ (.head _) q
                 · rcases List.mem_append.mp hp with hp | hp
                   · exact hn₆ p (.tail _ (List.mem_append_left _ hp))
                   · rcases List.mem_append.mp hp with hp | hp
                     · exact hn₆ p (.tail _ (List.mem_append_right _ (List.mem_append_left _ hp)))
                     · exact (hZt2 p hp).2.2
             · intro h' tk m' news' F21 N21 H
               ((refine opq ?_); intro G' hG')
               obtain ⟨takenV, nT, Z2, rfl, hZ2, hZt2, hT, e1, e2, e3, e4, e5⟩ := H
               ((with_reducible rename Opq _ _ => hG'); (refine hG' ?_); clear hG'; (try dsimp only))
               walk_at "zs"
               (try dsimp only [ZTurn])
               rw [← takeJ_succ] at hT
               refine ZNext.intro (news₂ := (tl, listOf takenV.toArray nT) :: Z2) F21 (fun p hp => N21 p ?_) (fun p hp => ?_) (hJJ _ _ _ ⟨takenV, nT, Z2, rfl, fun q hq => hZ2 q (hGZ q hq), fun q hq => (hZt2 q hq).1, hT, e3, e4, e5⟩)
               · rcases List.mem_append.mp hp with hp | hp
                 · exact .tail _ (List.mem_append_left _ hp)
                 · rcases List.mem_cons.mp hp with rfl | hp
                   · exact .head _
                   · exact .tail _ (List.mem_append_right _ (List.mem_append_right _ hp))
               · rcases List.mem_cons.mp hp with rfl | hp
                 · exact htI
                 · exact (hZt2 p hp).2
       · intro h' tk m' news' F5 N5 H
         walk_at "zs"
         refine hPP _ _ ?_
         exact ⟨rfl, _, _, _, _, rfl, F5, N5, H⟩
     · intro f s' H
       ((refine opq ?_); intro G' hG')
       obtain ⟨rfl, h', tk, m', data, rfl, F5, N5, H7⟩ := H
       obtain ⟨takenV, nT, Z, rfl, hGZ, hZt, hT, _, e3, _⟩ := H7
       ((with_reducible rename Opq _ _ => hG'); (refine hG' ?_); clear hG'; (try dsimp only))
       have kZ : ∀ q ∈ K, q ∈ (tl, listOf takenV.toArray nT) :: Z := fun q hq => .tail _ (hGZ q (up q hq))
       walk_at "zs"
       exact h _ _ tl takenV nT _ c1 c2 (by assumption) (by assumption) (fun q hq => kZ q (rK q hq)) (kZ _ (by rw [hK]; exact .tail _ (.head _))) (hc1.more fun q hq => kZ q (oK q hq)) (hc2.more fun q hq => kZ q (oK q hq)) (.head _) (hT.more fun q hq => .tail _ hq)
end
end
section
inductive HZOC : {α : Type} → Sem α → Prop
 | c0 (a1 a2 a3 a4 a5 a6 a7) : HZOC (execs (Stmt.For a1 a2 a3 a4 a5 :: a6) a7)
 | c1 (a1) : HZOC (pyIter a1)
 | c2 (a1 a2 a3 a4 a5) : HZOC (assign (Expr.Tuple a1 a2 a3) a4 a5)
 | c3 (a1 a2 a3 a4 a5 a6 a7) : HZOC (subscriptTail a1 (Expr.Slice a2 a3 a4 a5) a6 a7)
 | c4 (a1 a2) : HZOC (call (Value.type "enumerate") a1 a2)
 | c5 (a1 a2) : HZOC (getItem (Value.ref a1) a2)
 | c6 (a1 a2 a3) : HZOC (setItem (Value.ref a1) a2 a3)
 | c7 (a1 a2) : HZOC (call (Value.type "bytes") a1 a2)
namespace ZOC
theorem hzt {α : Type} {M : Model} {A : Around} {t : Sem α} {Q : α → Shared → Prop} {E : Value → Shared → Prop} {s : Shared} (_ : HZOC t) (h : wpAny M A t Q E s) : wpAny M A t Q E s := h
end ZOC
open ZOC
section
variable {w : World} {A : Around} {h₀ : Heap} {L : Addr} {m : Str → Option Value} {rest : List (Addr × Obj)} {s : Shared} {E : Value → Shared → Prop} {Q : Value → Shared → Prop}
theorem news_dim2 {h₀ h : Heap} {L : Addr} {o B : List (Addr × Obj)} {a c : Addr × Obj} (N : News h₀ L h (c :: (o ++ a :: B))) : News h₀ L h (o ++ a :: c :: B) := sbn N (by repeat' (first | exact sb0 | exact sbs | refine sbc ?_ ?_ | refine sba ?_ ?_ | refine sbt ?_ | refine sbl sbs | refine sbr ?_ | exact .head _ | refine .tail _ ?_ | refine List.mem_append_right _ ?_))
theorem ints_snoc {ys : List Value} {os : List Int} {x : Int} {t : Tok} (h : IntsAre ys os) : IntsAre (ys ++ [.int x t]) (os ++ [x]) := by
 induction h with
 | nil => exact .cons _ _ .nil
 | cons _ _ _ ih => exact .cons _ _ ih
theorem isl2 {g h : Heap} {L' : Addr} {m' : Str → Option Value} {sc : Addr} {xs : Array Value} (F : Fr g L' h m') (FG : Fr h₀ L g m) (hl : h₀.IsList sc xs) : h.IsList sc xs := hl.elim fun o h => ⟨o, F.keep _ _ (FG.keep _ _ h.1), h.2⟩
theorem getItem_at {prog : Program} {a : Addr} {l : List Value} {k : Int} {j : Nat} {u : Tok} {x : Value} (e : k = (j : Int)) (hl : s.heap.IsList a l.toArray) (hfit : j < 2 ^ 62) (hx : l[j]? = some x) (h : Q x s) : wpAny (model prog w) A (getItem (.ref a) (.int k u)) Q E s := by
 subst e
 exact wpAny_getItem_list hl (Int.natCast_nonneg _) (by omega) (by simpa using hx) h
theorem slice60 {prog : Program} {l : Addr} {news : List (Addr × Obj)} {value slice : Expr} {vs : List Value} {u : Tok} {ops : List Value} (F : Fr h₀ L s.heap m) (N : News h₀ L s.heap news) (hl : s.heap.IsList l vs.toArray)
   (h : ∀ D h', Fr h₀ L h' m → News h₀ L h' ((D, listOf (vs.take 60).toArray 0) :: news) → (∀ p ∈ news, @LT.lt Nat _ p.1 D) → Q (.ref D) { s with heap := h' }) (hz : vs.length ≤ 16777216)
   (hs : subscripted slice false (.ref l) (.ref s.heap.objs.size) = operate ops (getItem (.ref l) (.ref s.heap.objs.size)) := by with_unfolding_all rfl) (ht : ∀ r, letTemporaryGo value (.ref l) r = pure () := by intro _; with_unfolding_all rfl) :
   wpAny (model prog w) A (subscriptTail value slice (.ref l) (.ref s.heap.objs.size)) Q E { s with heap := s.heap.push { cls := .type "slice", data := .fields #[.none, .int 60 u, .none] } } := by
 refine slice_list3 F N hl .none (.int _ _) .none (by decide) (fun h' F' N' => h _ h' F' ?_ fun p hp => Nat.lt_succ_of_lt (Heap.lt_size (N p hp).1)) hs ht (by rw [List.size_toArray, sizeLine_eq]; exact hz)
 rw [show (60 : Int) = ((60 : Nat) : Int) from rfl, slicePick_upto'] at N'
 exact N'
inductive OcA (vs : List Value) (D cl : Addr) (rest : List (Addr × Obj)) (m : Str → Option Value) (data : List (Addr × Obj)) : Prop
 | mk (cs : List Value) (k : Nat) (zs : List Int) (hd : data = (D, listOf (vs.take 60).toArray 0) :: (cl, listOf (List.toArray cs) k) :: rest) (hzs : IntsAre cs zs) (hcs : zs.length = 15) (e1 : m "cells" = some (.ref cl))
inductive OcB (nw0 : List (Addr × Obj)) (i : Nat) (ys : List Value) (nw : List (Addr × Obj)) : Prop
 | mk (os : List Int) (hw : nw0 = nw) (hi : i ≤ 15) (hos : IntsAre ys os) (hol : os.length = i) (hob : ∀ y ∈ os, 0 ≤ y ∧ y < 3)
set_option maxHeartbeats 4000000 in
theorem octets_ok {sc : Addr} {vs : List Value} {ns : List Int} (C : Cx w 310 A L h₀) (hh : A.handled = none) (F : Fr h₀ L s.heap m) (N : News h₀ L s.heap rest) (hl : h₀.IsList sc vs.toArray) (hi0 : IntsAre vs ns) (hz : vs.length ≤ 16777216)
   (h : ∀ h' tk t (o : Array UInt8), Fr h₀ L h' m → News h₀ L h' rest → o.size = 15 → (∀ y ∈ o.toList, y.toNat < 3) → Q (.bytes o t) { s with heap := h', toks := tk }) :
   wpAny (model PySem.Challenge.rw_wy0029_01.row.prog w) A (call (.ref 136) [.ref sc]) Q E s := by
 (((rename Cx _ _ _ _ _ => c0z); (obtain ⟨hdz, huz, hAz, hfz, hkz, Bz, Xz, CT1z, CT2z, Tz⟩ := c0z); (refine lift_around hdz huz hAz ?_); (try refine wpAny_noRaise ?_); (have q0z : (PySem.Challenge.rw_wy0029_01, fun P => (Mine.hd.heap_1 P).length) = (PySem.Challenge.rw_wy0029_01, fun P => (Mine.hd.heap_1 P).length) := by k_fill; rfl); clear q0z); (refine wpAny_call ?_); (refine' code_def ?k1 ?k2 ?k3 ?k4 ?k5 ?kA ?kF ?kK ?k6 ?k7 ?k8 ?k9 ?kB ?_ ?c2 ?c3 ?c4 ?c5; (case kA => exact rfl); (case kF => first | assumption | exact rfl); (case kK => first | assumption | exact rfl); (case k1 => k_asm); (case k2 => k_asm); (case k3 => k_asm); (case k4 => k_asm); (case k5 => k_asm); (case k6 => k_is); (case k7 => k_is); (case k8 => k_room); (case k9 => first | exact BindsTo.of_eq rfl | exact binds_K (by k_in) rfl (by k_is) rfl rfl rfl | (refine' kp_binds ?kx ?ke; (case kx => k_in); (case ke => exact fun _ => rfl))); (case c5 => decide); (case kB => exact locs rfl); (case c2 => exact rfl); (case c3 => exact rfl); (case c4 => exact rfl); k_whole; intro gz' Lz' hz' FGz' Fz' Nz' Bz' Xz' Tz'; (have c1z' := CodeHd.keeps (c := 125) (P := 123) (by assumption) (Fr.keep FGz')); (have c2z' := CodeHd.keeps (c := 108) (P := 104) (by assumption) (Fr.keep FGz')); (try dsimp only); (try k_lift Bz'); (try k_fold)); (refine wpAny_noRaise ?_))
 walk_at "zs"
 rename Addr => cl
 rename (∀ p ∈ rest, @LT.lt Nat _ _ _) => hl0
 rename Fr h₀ L _ m => FG
 (with_reducible refine wpAny_execs_cons (blind ?_)); intro _ _; refine wpAny_For ?_
 walk_at "zs"
 rename Fr _ _ _ _ => F1
 rename News _ _ _ _ => N1
 refine slice60 (s := ⟨_, _, _, _, _⟩) F1 N1 (isl2 F1 FG hl) ?_ hz
 intro D h2 F2 N2 hD
 walk_at "zs"
 refine zenum hh F2 N2 (.head _) ?_
 intro I ow o O h3 SE hO hoff hown F3 N3
 walk_at "zs"
 rename Fr _ _ _ _ => F4
 rename News _ _ _ _ => N4
 refine (SE [] 0 default).self 0 o _ _ _ _ _ _ hO (fun p hp => by rw [List.mem_singleton.mp hp]; exact .head _) N4 ?_
 refine zforE (SE _ _ _) (fun i m data => OcA vs D cl rest m data) (fun i m data hJ p hp => by obtain ⟨cs, k, zs, rfl, _⟩ := hJ; rw [List.mem_singleton.mp hp]; exact .head _) F4 N4 hO hoff
   ⟨[_, _, _, _, _, _, _, _, _, _, _, _, _, _, _], _, _, by exact rfl, by l_ints, by exact rfl, by walk_at "zlook"⟩ ?_ ?_
 · clear F4 N4 hO hoff
   intro J' R' σ hJJ i T ob ti y z o₃ m₃ data h₃ tk₃ hi HJ hy hc hd hO₃ ho₃ hn₂ F5 N5
   ((refine opq ?_); intro G' hG')
   obtain ⟨cs, k, zs, rfl, hzs, hcs, e1⟩ := HJ
   ((with_reducible rename Opq _ _ => hG'); (refine hG' ?_); clear hG'; (try dsimp only))
   refine zunp hh F5 N5 (.head _) hc hd rfl rfl fun h11 F6 N6 => ?_
   clear F5 N5
   obtain ⟨yv, ty, rfl⟩ : ∃ x t, y = .int x t := by
     have hy' : (vs.take 60)[i]? = some y := by simpa using hy
     have hm := List.mem_of_mem_take (List.mem_of_getElem? hy')
     obtain ⟨q, hq⟩ := List.getElem?_of_mem hm
     refine x2a2 (IntsAre.at hi0 q y hq) ?_; rintro n t e _
     exact ⟨n, t, e⟩
   have hj : i % 15 < 15 := Nat.mod_lt _ (by decide)
   have hk : (i : Int).fmod 15 = ((i % 15 : Nat) : Int) := by rw [Int.fmod_eq_emod_of_nonneg _ (by decide)]; rfl
   obtain ⟨v0, hv0⟩ : ∃ v, cs[i % 15]? = some v := ⟨_, List.getElem?_eq_getElem (by rw [IntsAre.length hzs]; first | exact Nat.lt_of_lt_of_eq hj hcl.symm | omega)⟩
   refine x2a2 (IntsAre.at hzs _ v0 hv0) ?_; rintro x0 t0 rfl _
   walk_at "zs"
   rename Fr _ _ _ _ => F7
   rename News _ _ _ _ => N7
   refine getItem_at hk (News.isList N7 (List.mem_append_right [(T, ob)] (List.mem_append_right o₃ (.tail _ (.head _))))) (Nat.lt_trans hj (by decide)) hv0 ?_
   walk_at "zs"
   rename Fr _ _ _ _ => F8
   rename News _ _ _ _ => N8
   have mcl : (cl, listOf (List.toArray cs) k) ∈ o₃ ++ (D, listOf (vs.take 60).toArray 0) :: (cl, listOf (List.toArray cs) k) :: rest := List.mem_append_right _ (.tail _ (.head _))
   have N9 : News _ _ _ ((cl, listOf (List.toArray cs) k) :: (o₃ ++ (D, listOf (vs.take 60).toArray 0) :: rest)) := fun p hp => N8 p (List.mem_append_right [(T, ob)] (by
     rcases List.mem_cons.mp hp with rfl | hp
     · exact mcl
     · rcases List.mem_append.mp hp with hp | hp
       · exact List.mem_append_left _ hp
       · rcases List.mem_cons.mp hp with rfl | hp
         · exact List.mem_append_right _ (.head _)
         · exact List.mem_append_right _ (.tail _ (.tail _ hp))))
   have apc : ∀ p ∈ o₃ ++ (D, listOf (vs.take 60).toArray 0) :: rest, p.1 ≠ cl := fun p hp => by
     rcases List.mem_append.mp hp with hp | hp
     · exact fun q => hn₂ _ (.tail _ (.head _)) (by rw [← q]; exact ho₃ p hp)
     · rcases List.mem_cons.mp hp with rfl | hp
       · exact Nat.ne_of_gt (hD _ (.head _))
       · exact Nat.ne_of_lt (hl0 p hp)
   have hn₂' : ∀ (y : Obj), ∀ p ∈ (D, listOf (vs.take 60).toArray 0) :: (cl, y) :: rest, p.1 ∉ ow := fun y p hp => by
     rcases List.mem_cons.mp hp with rfl | hp
     · exact hn₂ _ (.head _)
     · rcases List.mem_cons.mp hp with rfl | hp
       · exact fun q => hn₂ _ (.tail _ (.head _)) q
       · exact hn₂ _ (.tail _ (.tail _ hp))
   refine ksa_set F8 N9 (.head apc) hzs (by omega) (by omega) (by omega) ?_
   intro h10 F10 N10 i10 l10 _
   walk_at "zs"
   (try dsimp only [ZTurn])
   refine ZNext.intro F10 (news_dim2 N10) (hn₂' _) (hJJ _ _ _ ⟨_, k, _, rfl, i10, by rw [l10]; exact hcs, by walk_at "zlook"⟩)
 · intro h' tk m' data F5 N5 HJ
   obtain ⟨cs, k, zs, rfl, hzs, hcs, e1⟩ := HJ
   walk_at "zs"
   rename Fr _ _ _ _ => F6
   rename News _ _ _ _ => N6
   refine zcompF F6 (by exact rfl) (by decide) (by exact rfl) (by decide) ?_
   walk_at "zs"
   refine zlist hh F6 N6 (.tail _ (.head _)) ?_
   intro I4 o4 O4 h7 S4 hO4 hoff4 hown4 F7 N7
   obtain ⟨nw0, hnw0, mcl⟩ : ∃ Z, Z = (D, listOf (vs.take 60).toArray 0) :: (cl, listOf (List.toArray cs) k) :: rest ∧ (cl, listOf (List.toArray cs) k) ∈ Z := ⟨_, rfl, .tail _ (.head _)⟩
   rw [← hnw0] at N7 hoff4
   have hcl : cs.length = 15 := by rw [IntsAre.length hzs]; exact hcs
   refine zcl1O (names := ["cell"]) hh (S4 _ (zgoN I4)) (fun i vals x => ∃ n t, cs[i]? = some (.int n t) ∧ vals = [.int n t] ∧ x = []) (fun i ys nw => OcB nw0 i ys nw)
       ?_ ?_ (by exact rfl) (by decide) F7 N7 hO4 hoff4 ⟨[], rfl, Nat.zero_le _, .nil, rfl, fun _ h => nomatch h⟩ ?_ ?_
   · rintro i ys nw ⟨os, rfl, hi15, hos, hol, _⟩
     exact ⟨fun p hp => by rw [List.mem_singleton.mp hp]; exact mcl, by rw [IntsAre.length hos]; omega⟩
   · rintro i v x t u ys nw hi' _ ⟨h1, rfl⟩
     have h1' : cs[i]? = some v := by simpa using h1
     refine x2a2 (IntsAre.at hzs i v h1') ?_; rintro n t rfl _
     exact ⟨_, ⟨n, t, h1', rfl, rfl⟩, .name⟩
   · intro J' σ hJJ C D2 i vals x o m₃ oC ys nw h14 tk14 hi' HJ HV ho hxx hnn hC F14 N14
     ((refine opq ?_); intro G' hG')
     obtain ⟨os, rfl, hi15, hos, hol, hob⟩ := HJ
     refine x2a3 HV ?_; clear HV; rintro n t hn rfl rfl
     ((with_reducible rename Opq _ _ => hG'); (refine hG' ?_); clear hG'; (try dsimp only))
     refine compTests_nil ?_
     walk_at "zs"
     have hlt : i < 15 := by rw [← hcl]; exact (List.getElem?_eq_some_iff.mp hn).1
     refine CNext.intro hC F14 N14 (.head _) (.tail _ (.head _)) (fun p hp => .tail _ (.tail _ (List.mem_append_right [] (List.mem_append_left _ hp)))) (fun p hp => .tail _ (.tail _ (List.mem_append_right [] (List.mem_append_right o hp)))) hnn (hJJ _ _ _ ⟨os ++ [n.fmod 3], rfl, hlt, ints_snoc hos, by rw [List.length_append, hol]; rfl, fun y hy => ?_⟩)
     rcases List.mem_append.mp hy with hy | hy
     · exact hob y hy
     · rw [List.mem_singleton.mp hy, Int.fmod_eq_emod_of_nonneg _ (by decide)]
       omega
   · rintro D2 ys nw hD2 ⟨os, rfl, _, hos, hol, hob⟩
     intro h15 tk15 F15 N15
     have hol2 : os.length = 15 := by rw [hol]; simpa using hcl
     clear F6 N6 F7 N7
     walk_at "zs"
     refine bytes_K F15 N15 (News.isList N15 (.head _)) hos (fun y hy => ⟨(hob y hy).1, by have := (hob y hy).2; omega⟩) (by rw [IntsAre.length hos, hol2, sizeLine_eq]; exact Nat.le_of_ble_eq_true rfl) hh ?_
     intro h16 t16 tk16 F16 N16 _
     walk_at "zs"
     exact h _ _ _ _ (by assumption) (fun p hp => by
       rename News _ _ _ _ => N17
       exact N17 p (.tail _ (by rw [hnw0]; exact .tail _ (.tail _ hp)))) (by simp [hol2]) fun y hy => by
         obtain ⟨x, hx, rfl⟩ := List.mem_map.mp (by simpa using hy)
         have := hob x hx
         have : x = 0 ∨ x = 1 ∨ x = 2 := by omega
         rcases this with rfl | rfl | rfl <;> decide
end
end
section
noncomputable abbrev Mon := Nat × Nat × Nat
noncomputable abbrev Pt3 := Int × Int × Int
noncomputable def sumTo (j : Nat) (x : Int) (P : Nat → Int) : Int := match j with
 | 0 => P 0
 | 1 => P 0 + x * P 1
 | _ => P 0 + x * P 1 + x * x * P 2
theorem sumTo_sub (j : Nat) (x y : Int) (P P' : Nat → Int) : sumTo j x (fun i => P i - y * P' i) = sumTo j x P - y * sumTo j x P' := by
 match j with
 | 0 => rfl
 | 1 => simp only [sumTo]; grind
 | j + 2 => simp only [sumTo]; grind
theorem dvd_comb {a b c : Int} (h : (5 : Int) ∣ a) (k : (5 : Int) ∣ b) (u v w : Int) (e : c = u * a + v * b + 5 * w) : (5 : Int) ∣ c := by
 rw [e]
 exact Int.dvd_add (Int.dvd_add (Int.dvd_trans h (Int.dvd_mul_left _ _)) (Int.dvd_trans k (Int.dvd_mul_left _ _))) (Int.dvd_mul_right _ _)
theorem roots {d : Nat} (hd : d ≤ 2) {c : Nat → Int} {p0 p1 p2 : Prop} [Decidable p0] [Decidable p1] [Decidable p2] (hn : d < (if p0 then 1 else 0) + (if p1 then 1 else 0) + (if p2 then 1 else 0))
   (h0 : p0 → (5 : Int) ∣ sumTo d 0 c) (h1 : p1 → (5 : Int) ∣ sumTo d 1 c) (h2 : p2 → (5 : Int) ∣ sumTo d 2 c) : (5 : Int) ∣ c d := by
 rcases two hd with rfl | rfl | rfl
 ·
   simp only [sumTo] at h0 h1 h2
   split at hn <;> split at hn <;> split at hn <;> first | omega | exact h0 (by assumption) | exact h1 (by assumption) | exact h2 (by assumption)
 ·
   simp only [sumTo] at h0 h1 h2
   split at hn <;> split at hn <;> split at hn <;> first | exact dvd_comb (h0 (by assumption)) (h1 (by assumption)) (-1) 1 0 (by omega) | exact dvd_comb (h0 (by assumption)) (h2 (by assumption)) 2 (-2) (c 1) (by omega) | exact dvd_comb (h1 (by assumption)) (h2 (by assumption)) (-1) 1 0 (by omega) | omega
 ·
   simp only [sumTo] at h0 h1 h2
   split at hn <;> split at hn <;> split at hn <;> first | exact dvd_comb (dvd_comb (h0 (by assumption)) (h1 (by assumption)) 1 (-2) 0 rfl) (h2 (by assumption)) (-2) (-2) (c 2) (by omega) | omega
noncomputable def Led (t : Mon) (f : Int → Int → Int → Int) (u : Int) : Prop := ∃ (P : Nat → Int → Int → Int) (Q : Nat → Int → Int) (R : Nat → Int),
 (∀ a b c, (5 : Int) ∣ f a b c - sumTo t.1 a (fun i => P i b c)) ∧ (∀ b c, (5 : Int) ∣ P t.1 b c - sumTo t.2.1 b (fun i => Q i c)) ∧ (∀ c, (5 : Int) ∣ Q t.2.1 c - sumTo t.2.2 c R) ∧ (5 : Int) ∣ R t.2.2 - u
theorem dvd_lin {a b x : Int} (h1 : (5 : Int) ∣ a) (h2 : (5 : Int) ∣ b) : (5 : Int) ∣ a - x * b := Int.dvd_sub h1 (Int.dvd_trans h2 (Int.dvd_mul_left _ _))
theorem dvd_lin' {a b c d x : Int} (h1 : (5 : Int) ∣ a - c) (h2 : (5 : Int) ∣ b - d) : (5 : Int) ∣ a - x * b - (c - x * d) := by
 rw [show a - x * b - (c - x * d) = a - c - x * (b - d) from by grind]
 exact dvd_lin h1 h2
theorem d0 {x y : Int} (h : x = y) : (5 : Int) ∣ x - y := by
 rw [h, Int.sub_self]
 exact ⟨0, rfl⟩
theorem sumTo_nil (d : Nat) (x : Int) : sumTo d x (fun _ => 0) = 0 := by
 match d with
 | 0 => rfl
 | 1 => simp [sumTo]
 | n + 2 => simp [sumTo]
theorem Led.lin {t : Mon} {f g : Int → Int → Int → Int} {u v : Int} (hf : Led t f u) (hg : Led t g v) (x : Int) : Led t (fun a b c => f a b c - x * g a b c) (u - x * v) := by
 obtain ⟨P, Q, R, p1, p2, p3, p4⟩ := hf
 obtain ⟨P', Q', R', q1, q2, q3, q4⟩ := hg
 refine ⟨fun i b c => P i b c - x * P' i b c, fun i c => Q i c - x * Q' i c, fun i => R i - x * R' i, fun a b c => ?_, fun b c => ?_, fun c => ?_, ?_⟩
 · rw [sumTo_sub]
   exact dvd_lin' (p1 a b c) (q1 a b c)
 · rw [sumTo_sub]
   exact dvd_lin' (p2 b c) (q2 b c)
 · rw [sumTo_sub]
   exact dvd_lin' (p3 c) (q3 c)
 · exact dvd_lin' p4 q4
theorem Led.zero (t : Mon) : Led t (fun _ _ _ => 0) 0 := by
 exact ⟨fun _ _ _ => 0, fun _ _ => 0, fun _ => 0, fun _ _ _ => d0 (sumTo_nil _ _).symm, fun _ _ => d0 (sumTo_nil _ _).symm, fun _ => d0 (sumTo_nil _ _).symm, ⟨0, rfl⟩⟩
noncomputable def mono (t : Mon) (a b c : Int) : Int := a ^ t.1 * b ^ t.2.1 * c ^ t.2.2
theorem sumTo_one {d i : Nat} (hd : d ≤ 2) (hi : i ≤ d) (x y : Int) : sumTo d x (fun n => if n = i then y else 0) = x ^ i * y := by
 have h1 := two (Nat.le_trans hi hd)
 have h2 := two hd
 rcases h1 with rfl | rfl | rfl <;> rcases h2 with rfl | rfl | rfl <;> first | omega | (simp [sumTo]; done) | (simp [sumTo, Int.pow_succ])
noncomputable def lexLt (s t : Mon) : Prop := s.1 < t.1 ∨ (s.1 = t.1 ∧ (s.2.1 < t.2.1 ∨ (s.2.1 = t.2.1 ∧ s.2.2 < t.2.2)))
noncomputable def inGrid (t : Mon) : Prop := t.1 ≤ 2 ∧ t.2.1 ≤ 2 ∧ t.2.2 ≤ 2
theorem Led.self {t : Mon} (ht : inGrid t) : Led t (mono t) 1 := by
 obtain ⟨j, k, l⟩ := t
 obtain ⟨h1, h2, h3⟩ := ht
 dsimp only at h1 h2 h3
 refine ⟨fun i b c => if i = j then b ^ k * c ^ l else 0, fun i c => if i = k then c ^ l else 0, fun i => if i = l then 1 else 0, fun a b c => ?_, fun b c => ?_, fun c => ?_, ?_⟩
 · dsimp only; rw [sumTo_one h1 (Nat.le_refl _), mono]; exact d0 (Int.mul_assoc _ _ _)
 · dsimp only; rw [sumTo_one h2 (Nat.le_refl _), if_pos rfl]; exact d0 rfl
 · dsimp only; rw [sumTo_one h3 (Nat.le_refl _), if_pos rfl]; exact d0 (Int.mul_one _).symm
 · dsimp only; rw [if_pos rfl]; exact d0 rfl
theorem Led.low {s t : Mon} (ht : inGrid t) (h : lexLt s t) : Led t (mono s) 0 := by
 obtain ⟨j, k, l⟩ := t
 obtain ⟨j', k', l'⟩ := s
 obtain ⟨h1, h2, h3⟩ := ht
 dsimp only [lexLt] at h h1 h2 h3
 rcases h with h | ⟨rfl, h | ⟨rfl, h⟩⟩
 · refine ⟨fun i b c => if i = j' then b ^ k' * c ^ l' else 0, fun _ _ => 0, fun _ => 0, fun a b c => ?_, fun b c => ?_, fun c => ?_, ⟨0, rfl⟩⟩
   · dsimp only; rw [sumTo_one h1 (Nat.le_of_lt h), mono]; exact d0 (Int.mul_assoc _ _ _)
   · dsimp only; rw [sumTo_nil, if_neg (Nat.ne_of_gt h)]; exact ⟨0, rfl⟩
   · dsimp only; rw [sumTo_nil]; exact ⟨0, rfl⟩
 · refine ⟨fun i b c => if i = j' then b ^ k' * c ^ l' else 0, fun i c => if i = k' then c ^ l' else 0, fun _ => 0, fun a b c => ?_, fun b c => ?_, fun c => ?_, ⟨0, rfl⟩⟩
   · dsimp only; rw [sumTo_one h1 (Nat.le_refl _), mono]; exact d0 (Int.mul_assoc _ _ _)
   · dsimp only; rw [sumTo_one h2 (Nat.le_of_lt h), if_pos rfl]; exact d0 rfl
   · dsimp only; rw [sumTo_nil, if_neg (Nat.ne_of_gt h)]; exact ⟨0, rfl⟩
 · refine ⟨fun i b c => if i = j' then b ^ k' * c ^ l' else 0, fun i c => if i = k' then c ^ l' else 0, fun i => if i = l' then 1 else 0, fun a b c => ?_, fun b c => ?_, fun c => ?_, ?_⟩
   · dsimp only; rw [sumTo_one h1 (Nat.le_refl _), mono]; exact d0 (Int.mul_assoc _ _ _)
   · dsimp only; rw [sumTo_one h2 (Nat.le_refl _), if_pos rfl]; exact d0 rfl
   · dsimp only; rw [sumTo_one h3 (Nat.le_of_lt h), if_pos rfl]; exact d0 (Int.mul_one _).symm
   · dsimp only; rw [if_neg (Nat.ne_of_lt' h)]; exact ⟨0, rfl⟩
noncomputable def three (p : Nat → Bool) : Nat := (if p 0 then 1 else 0) + (if p 1 then 1 else 0) + (if p 2 then 1 else 0)
noncomputable def cntA (χ : Nat → Nat → Nat → Bool) (b c : Nat) : Nat := three fun a => χ a b c
noncomputable def cntB (χ : Nat → Nat → Nat → Bool) (j c : Nat) : Nat := three fun b => decide (j < cntA χ b c)
noncomputable def cntC (χ : Nat → Nat → Nat → Bool) (j k : Nat) : Nat := three fun c => decide (k < cntB χ j c)
theorem roots3 {d : Nat} (hd : d ≤ 2) {c : Nat → Int} {p : Nat → Bool} (hn : d < three p) (h : ∀ n : Nat, n < 3 → p n = true → (5 : Int) ∣ sumTo d n c) : (5 : Int) ∣ c d :=
 roots hd (p0 := p 0 = true) (p1 := p 1 = true) (p2 := p 2 = true) hn (fun q => h 0 (by decide) q) (fun q => h 1 (by decide) q) (fun q => h 2 (by decide) q)
theorem dvd_of_sub {a b : Int} (h : (5 : Int) ∣ a - b) (ha : (5 : Int) ∣ a) : (5 : Int) ∣ b := by exact (Int.dvd_iff_dvd_of_dvd_sub h).mp ha
theorem Led.vanish {t : Mon} (ht : inGrid t) {χ : Nat → Nat → Nat → Bool} {f : Int → Int → Int → Int} {u : Int} (h : Led t f u) (hl : t.2.2 < cntC χ t.1 t.2.1) (hv : ∀ a b c : Nat, a < 3 → b < 3 → c < 3 → χ a b c = true → (5 : Int) ∣ f a b c) : (5 : Int) ∣ u := by
 obtain ⟨P, Q, R, p1, p2, p3, p4⟩ := h
 refine dvd_of_sub p4 (roots3 ht.2.2 hl fun c hc q => ?_)
 refine dvd_of_sub (p3 c) (roots3 (c := fun i => Q i c) ht.2.1 (of_decide_eq_true q) fun b hb q => ?_)
 refine dvd_of_sub (p2 b c) (roots3 (c := fun i => P i b c) ht.1 (of_decide_eq_true q) fun a ha q => ?_)
 exact dvd_of_sub (p1 a b c) (hv a b c ha hb hc q)
end
section
noncomputable def sum3 (f : Nat → Nat) : Nat := f 0 + f 1 + f 2
noncomputable def total (χ : Nat → Nat → Nat → Bool) : Nat := sum3 fun c => sum3 fun b => cntA χ b c
theorem three_le (p : Nat → Bool) : three p ≤ 3 := by unfold three; split <;> split <;> split <;> decide
theorem le3 {m : Nat} (h : m ≤ 3) : m = 0 ∨ m = 1 ∨ m = 2 ∨ m = 3 := (Nat.lt_or_eq_of_le h).elim (fun h => (two (Nat.le_of_lt_succ h)).imp id fun h => h.imp id .inl) fun e => .inr (.inr (.inr e))
theorem lt_not {j m : Nat} (hj : j < 3) (hm : m ≤ 3) : j < 3 - m ↔ ¬ 2 - j < m := (by decide : ∀ (j : Fin 3) (m : Fin 4), j.1 < 3 - m.1 ↔ ¬ 2 - j.1 < m.1) ⟨j, hj⟩ ⟨m, Nat.lt_succ_of_le hm⟩
theorem sw9 (a b c d e f g h i : Nat) : a + b + c + (d + e + f) + (g + h + i) = a + d + g + (b + e + h) + (c + f + i) := by
 rw [Nat.add_add_add_comm (a + b) c (d + e) f, Nat.add_add_add_comm a b d e, Nat.add_add_add_comm (a + d + (b + e)) (c + f) (g + h) i, Nat.add_add_add_comm (a + d) (b + e) g h]
theorem add3 {a b c x y z : Nat} (h : a = x) (k : b = y) (l : c = z) : a + b + c = x + y + z := by rw [h, k, l]
theorem sum3_lt (m : Nat) (h : m ≤ 3) : sum3 (fun j => if j < m then 1 else 0) = m := by
 rcases le3 h with rfl | rfl | rfl | rfl <;> rfl
theorem three_dec (m : Nat → Nat) (j : Nat) : three (fun b => decide (j < m b)) = sum3 fun b => if j < m b then 1 else 0 := by
 unfold three sum3; simp only [decide_eq_true_eq]
theorem sum3_three (m : Nat → Nat) (h : ∀ b, m b ≤ 3) : sum3 (fun j => three fun b => decide (j < m b)) = sum3 m := by
 have e : ∀ j, three (fun b => decide (j < m b)) = sum3 fun b => if j < m b then 1 else 0 := three_dec m
 have h0 := sum3_lt (m 0) (h 0)
 have h1 := sum3_lt (m 1) (h 1)
 have h2 := sum3_lt (m 2) (h 2)
 simp only [e]
 exact (sw9 _ _ _ _ _ _ _ _ _).trans (add3 h0 h1 h2)
theorem cntA_le (χ : Nat → Nat → Nat → Bool) (b c : Nat) : cntA χ b c ≤ 3 := three_le _
theorem cntB_le (χ : Nat → Nat → Nat → Bool) (j c : Nat) : cntB χ j c ≤ 3 := three_le _
theorem cntC_le (χ : Nat → Nat → Nat → Bool) (j k : Nat) : cntC χ j k ≤ 3 := three_le _
theorem count_all (χ : Nat → Nat → Nat → Bool) : sum3 (fun j => sum3 fun k => cntC χ j k) = total χ := by
 have e1 : ∀ j, sum3 (fun k => cntC χ j k) = sum3 fun c => cntB χ j c := fun j => sum3_three (fun c => cntB χ j c) fun c => cntB_le χ j c
 have e2 : ∀ c, sum3 (fun j => cntB χ j c) = sum3 fun b => cntA χ b c := fun c => sum3_three (fun b => cntA χ b c) fun b => cntA_le χ b c
 have a0 := e2 0
 have a1 := e2 1
 have a2 := e2 2
 simp only [e1]
 exact (sw9 _ _ _ _ _ _ _ _ _).trans (add3 a0 a1 a2)
theorem take3_len (f : Nat → Nat → Nat) : (takeJ f 3).length = sum3 fun j => sum3 fun k => f j k := by
 have e : ∀ j, (takeK f j 3).length = sum3 fun k => f j k := fun j => by
   rw [takeK_succ, takeK_succ, takeK_succ]
   simp only [List.length_append, takeL_len]
   have : (takeK f j 0).length = 0 := rfl
   rw [this, Nat.zero_add]
   rfl
 rw [takeJ_succ, takeJ_succ, takeJ_succ]
 simp only [List.length_append, e]
 have : (takeJ f 0).length = 0 := rfl
 rw [this, Nat.zero_add]
 rfl
theorem take_mem {f : Nat → Nat → Nat} {t : Mon} : t ∈ takeJ f 3 ↔ t.1 < 3 ∧ t.2.1 < 3 ∧ t.2.2 < f t.1 t.2.1 := by
 obtain ⟨j, k, l⟩ := t
 unfold takeJ takeK takeL
 simp only [List.mem_flatMap, List.mem_range, List.mem_map, Prod.mk.injEq]
 constructor
 · rintro ⟨a, ha, b, hb, c, hc, rfl, rfl, rfl⟩
   exact ⟨ha, hb, hc⟩
 · rintro ⟨h1, h2, h3⟩
   exact ⟨j, h1, k, h2, l, h3, rfl, rfl, rfl⟩
theorem three_not (p : Nat → Bool) : three (fun n => !p n) = 3 - three p := by
 rcases Bool.eq_false_or_eq_true (p 0) with h0 | h0 <;> rcases Bool.eq_false_or_eq_true (p 1) with h1 | h1 <;> rcases Bool.eq_false_or_eq_true (p 2) with h2 | h2 <;> simp [three, h0, h1, h2]
theorem three_congr {p q : Nat → Bool} (h : ∀ n, p n = q n) : three p = three q := by rw [show p = q from funext h]
theorem cntA_not (χ : Nat → Nat → Nat → Bool) (b c : Nat) : cntA (fun a b c => !χ a b c) b c = 3 - cntA χ b c := three_not fun a => χ a b c
theorem cntB_not (χ : Nat → Nat → Nat → Bool) {j : Nat} (hj : j < 3) (c : Nat) : cntB (fun a b c => !χ a b c) j c = 3 - cntB χ (2 - j) c := by
 unfold cntB
 rw [← three_not]
 refine three_congr fun b => ?_
 rw [cntA_not]
 have := cntA_le χ b c
 rw [← decide_not]
 exact decide_eq_decide.mpr (lt_not hj this)
theorem cntC_not (χ : Nat → Nat → Nat → Bool) {j k : Nat} (hj : j < 3) (hk : k < 3) : cntC (fun a b c => !χ a b c) j k = 3 - cntC χ (2 - j) (2 - k) := by
 unfold cntC
 rw [← three_not]
 refine three_congr fun c => ?_
 rw [cntB_not χ hj]
 have := cntB_le χ (2 - j) c
 rw [← decide_not]
 exact decide_eq_decide.mpr (lt_not hk this)
noncomputable def dual (T : List Mon) : List Mon := (List.range 3).flatMap fun j => (List.range 3).flatMap fun k => ((List.range 3).filter fun l => decide ((2 - j, 2 - k, 2 - l) ∉ T)).map fun l => (j, k, l)
theorem range_dual (n : Nat) (h : n ≤ 3) : (List.range 3).filter (fun l => decide (¬ 2 - l < n)) = List.range (3 - n) := by
 rcases le3 h with rfl | rfl | rfl | rfl <;> rfl
theorem flatMap_congr3 {α : Type} {f g : Nat → List α} (h : ∀ n, n < 3 → f n = g n) : (List.range 3).flatMap f = (List.range 3).flatMap g := by
 show f 0 ++ (f 1 ++ (f 2 ++ [])) = g 0 ++ (g 1 ++ (g 2 ++ []))
 rw [h 0 (by decide), h 1 (by decide), h 2 (by decide)]
theorem dual_eq (χ : Nat → Nat → Nat → Bool) : takeJ (cntC fun a b c => !χ a b c) 3 = dual (takeJ (cntC χ) 3) := by
 obtain ⟨T, hT⟩ : ∃ T, T = takeJ (cntC χ) 3 := ⟨_, rfl⟩
 rw [← hT]
 unfold dual takeJ
 refine flatMap_congr3 fun j hj => ?_
 show takeK _ j 3 = _
 unfold takeK
 refine flatMap_congr3 fun k hk => ?_
 unfold takeL
 rw [cntC_not χ hj hk, ← range_dual _ (cntC_le χ (2 - j) (2 - k))]
 congr 1
 refine List.filter_congr fun l hl => ?_
 have hl' := List.mem_range.mp hl
 refine decide_eq_decide.mpr (not_congr ?_)
 rw [hT, take_mem]
 exact ⟨fun h => ⟨Nat.lt_succ_of_le (Nat.sub_le _ _), Nat.lt_succ_of_le (Nat.sub_le _ _), h⟩, fun h => h.2.2⟩
end
section
section
variable (pts : List Pt3)
noncomputable abbrev Poly := Int → Int → Int → Int
noncomputable def evP (f : Poly) : List Int := pts.map fun p => f p.1 p.2.1 p.2.2 % 5
noncomputable def red1 (row : List Int) (e : Nat × List Int) : List Int := List.zipWith (fun one two => (one - row.getD e.1 0 * two) % 5) row e.2
noncomputable def redB (B : List (Nat × List Int)) (row : List Int) : List Int := B.foldl red1 row
noncomputable def placesOf (row : List Int) : List Nat := (List.range pts.length).filter fun i => decide (row.getD i 0 ≠ 0)
noncomputable def normAt (row : List Int) (p : Nat) : List Int := row.map fun one => one * row.getD p 0 ^ 3 % 5
noncomputable def justGo (T : List Mon) : List Mon → List (Nat × List Int) → Bool
 | [], _ => true
 | m :: ms, B => match placesOf pts (redB B (evP pts (mono m))) with
   | [] => if m ∈ T then false else justGo T ms B
   | p :: _ => if m ∈ T then justGo T ms (B ++ [(p, normAt (redB B (evP pts (mono m))) p)]) else false
inductive Spn (ms : List Mon) : Poly → Prop
 | zero : Spn ms (fun _ _ _ => 0)
 | mono {m : Mon} : m ∈ ms → Spn ms (mono m)
 | lin {f g : Poly} (x : Int) : Spn ms f → Spn ms g → Spn ms (fun a b c => f a b c - x * g a b c)
variable {pts}
theorem Spn.more {ms ms' : List Mon} {f : Poly} (h : Spn ms f) (hs : ∀ m ∈ ms, m ∈ ms') : Spn ms' f := by
 induction h with
 | zero => exact .zero
 | mono hm => exact .mono (hs _ hm)
 | lin x _ _ ih1 ih2 => exact .lin x ih1 ih2
theorem Spn.led {ms : List Mon} {f : Poly} {t : Mon} (ht : inGrid t) (hm : ∀ s ∈ ms, lexLt s t) (h : Spn ms f) : Led t f 0 := by
 induction h with
 | zero => exact Led.zero t
 | mono h => exact Led.low ht (hm _ h)
 | lin x _ _ ih1 ih2 => have := ih1.lin ih2 x; rwa [show (0 : Int) - x * 0 = 0 from by grind] at this
theorem evP_len (f : Poly) : (evP pts f).length = pts.length := by simp [evP]
theorem evP_get (f : Poly) {i : Nat} {p : Pt3} (h : pts[i]? = some p) : (evP pts f).getD i 0 = f p.1 p.2.1 p.2.2 % 5 := by
 simp [evP, List.getD, List.getElem?_map, h]
theorem evP_getD_emod (f : Poly) (i : Nat) : (evP pts f).getD i 0 % 5 = (evP pts f).getD i 0 := by
 cases h : pts[i]? with
 | none => simp [evP, List.getD, List.getElem?_map, h]
 | some p => rw [evP_get f h, Int.emod_emod_of_dvd _ (Int.dvd_refl 5)]
theorem sub_emod (x y z : Int) : (x % 5 - z * (y % 5)) % 5 = (x - z * y) % 5 := by
 rw [Int.sub_emod, Int.mul_emod, Int.emod_emod_of_dvd _ (Int.dvd_refl 5), Int.emod_emod_of_dvd _ (Int.dvd_refl 5), ← Int.mul_emod, ← Int.sub_emod]
theorem red1_ev (f g : Poly) (i : Nat) : red1 (evP pts f) (i, evP pts g) = evP pts fun a b c => f a b c - (evP pts f).getD i 0 * g a b c := by
 unfold red1
 generalize (evP pts f).getD i 0 = z
 unfold evP
 rw [List.zipWith_map, List.zipWith_self]
 refine List.map_congr_left fun p _ => ?_
 exact sub_emod _ _ _
structure BaseOk (pts : List Pt3) (ms : List Mon) (B : List (Nat × List Int)) : Prop where
 ent : ∀ e ∈ B, e.1 < pts.length ∧ (∃ g, e.2 = evP pts g ∧ Spn ms g) ∧ e.2.getD e.1 0 = 1
 tri : B.Pairwise fun x y => y.2.getD x.1 0 = 0
theorem BaseOk.more {ms ms' : List Mon} {B : List (Nat × List Int)} (h : BaseOk pts ms B) (hs : ∀ m ∈ ms, m ∈ ms') : BaseOk pts ms' B :=
 ⟨fun e he => let ⟨a, ⟨g, b, c⟩, d⟩ := h.ent e he; ⟨a, ⟨g, b, c.more hs⟩, d⟩, h.tri⟩
theorem red_ev {ms : List Mon} (f : Poly) : ∀ (B : List (Nat × List Int)), BaseOk pts ms B → (∃ h, redB B (evP pts f) = evP pts (fun a b c => f a b c - 1 * h a b c) ∧ Spn ms h) ∧ ∀ e ∈ B, (redB B (evP pts f)).getD e.1 0 = 0 := by
 intro B
 induction hB : B.length generalizing B with
 | zero =>
   intro _
   obtain rfl := List.length_eq_zero_iff.mp hB
   refine ⟨⟨fun _ _ _ => 0, ?_, .zero⟩, fun _ h => nomatch h⟩
   show evP pts f = _
   congr 1
   funext a b c
   grind
 | succ k ih =>
   intro H
   obtain ⟨B', e, rfl⟩ : ∃ B' e, B = B' ++ [e] := by
     have hne : B ≠ [] := by intro h; rw [h] at hB; cases hB
     exact ⟨B.dropLast, B.getLast hne, (List.dropLast_concat_getLast hne).symm⟩
   have hl : B'.length = k := by simpa using hB
   have p := List.pairwise_append.mp H.tri
   obtain ⟨⟨h', r1, s1⟩, z1⟩ := ih B' hl ⟨fun x hx => H.ent x (List.mem_append_left _ hx), p.1⟩
   obtain ⟨lt, ⟨g, eg, sg⟩, one⟩ := H.ent e (List.mem_append_right _ (.head _))
   have step : redB (B' ++ [e]) (evP pts f) = red1 (redB B' (evP pts f)) e := by unfold redB; rw [List.foldl_append]; rfl
   obtain ⟨at_, lead⟩ := e
   dsimp only at lt eg one
   subst eg
   have zz : ∀ i, (redB (B' ++ [(at_, evP pts g)]) (evP pts f)).getD i 0 = ((redB B' (evP pts f)).getD i 0 - (redB B' (evP pts f)).getD at_ 0 * (evP pts g).getD i 0) % 5 := fun i => by
     rw [step, r1, red1_ev]
     cases hp : pts[i]? with
     | none => simp [evP, List.getD, List.getElem?_map, hp]
     | some q =>
       rw [evP_get _ hp, evP_get _ hp, evP_get _ hp, sub_emod]
   refine ⟨⟨fun a b c => h' a b c - (-(redB B' (evP pts f)).getD at_ 0) * g a b c, ?_, s1.lin _ sg⟩, fun x hx => ?_⟩
   · rw [step, r1, red1_ev]
     congr 1
     funext a b c
     grind
   · rw [zz]
     rcases List.mem_append.mp hx with hx | hx
     · rw [z1 x hx, show (evP pts g).getD x.1 0 = 0 from p.2.2 x hx _ (.head _)]
       simp
     · rw [List.mem_singleton.mp hx]
       dsimp only
       rw [one]
       simp
theorem pigeon : ∀ (n : Nat) (l : List Nat), l.Nodup → (∀ x ∈ l, x < n) → l.length ≤ n
 | 0, l, _, h => by
   cases l with
   | nil => exact Nat.le_refl _
   | cons a r => exact absurd (h a (.head _)) (Nat.not_lt_zero _)
 | n + 1, l, hn, h => by
   by_cases hm : n ∈ l
   · have := pigeon n (l.erase n) (hn.erase _) fun x hx => by
       have h1 := h x (List.mem_of_mem_erase hx)
       have h2 : x ≠ n := fun e => by
         rw [e] at hx
         exact (List.Nodup.not_mem_erase hn) hx
       exact Nat.lt_of_le_of_ne (Nat.le_of_lt_succ h1) h2
     rw [List.length_erase_of_mem hm] at this
     exact Nat.le_add_of_sub_le this
   · have := pigeon n l hn fun x hx => by
       have h1 := h x hx
       have h2 : x ≠ n := fun e => hm (e ▸ hx)
       exact Nat.lt_of_le_of_ne (Nat.le_of_lt_succ h1) h2
     exact Nat.le_succ_of_le this
theorem BaseOk.few {ms : List Mon} {B : List (Nat × List Int)} (H : BaseOk pts ms B) : B.length ≤ pts.length := by
 have := pigeon pts.length (B.map Prod.fst) ?_ ?_
 · simpa using this
 · rw [List.nodup_iff_pairwise_ne, List.pairwise_map]
   refine List.Pairwise.imp_of_mem ?_ H.tri
   intro x y _ hy hxy e
   rw [e, (H.ent y hy).2.2] at hxy
   exact absurd hxy (by decide)
 · intro x hx
   obtain ⟨e, he, rfl⟩ := List.mem_map.mp hx
   exact (H.ent e he).1
theorem cube (x : Int) (h0 : x % 5 = x) (h : x ≠ 0) : x * x ^ 3 % 5 = 1 := by
 have : x = 1 ∨ x = 2 ∨ x = 3 ∨ x = 4 := by omega
 rcases this with rfl | rfl | rfl | rfl <;> decide
theorem norm_ev (f : Poly) (p : Nat) : normAt (evP pts f) p = evP pts fun a b c => 0 - (-((evP pts f).getD p 0 ^ 3)) * f a b c := by
 unfold normAt
 generalize (evP pts f).getD p 0 ^ 3 = z
 unfold evP
 rw [List.map_map]
 refine List.map_congr_left fun q _ => ?_
 show f q.1 q.2.1 q.2.2 % 5 * z % 5 = _
 rw [Int.mul_emod, Int.emod_emod_of_dvd _ (Int.dvd_refl 5), ← Int.mul_emod]
 congr 1
 grind
theorem BaseOk.keep {ms : List Mon} {B : List (Nat × List Int)} (H : BaseOk pts ms B) {m : Mon} {p : Nat} {ps : List Nat} (h : placesOf pts (redB B (evP pts (mono m))) = p :: ps) : BaseOk pts (ms ++ [m]) (B ++ [(p, normAt (redB B (evP pts (mono m))) p)]) := by
 obtain ⟨⟨h', r1, s1⟩, z1⟩ := red_ev (mono m) B H
 have hp : p ∈ placesOf pts (redB B (evP pts (mono m))) := by rw [h]; exact .head _
 obtain ⟨h1, h2⟩ := List.mem_filter.mp hp
 have h1 := List.mem_range.mp h1
 have h2 := of_decide_eq_true h2
 have up : ∀ x ∈ ms, x ∈ ms ++ [m] := fun x hx => List.mem_append_left _ hx
 have getn : ∀ i, (normAt (redB B (evP pts (mono m))) p).getD i 0 = (redB B (evP pts (mono m))).getD i 0 * (redB B (evP pts (mono m))).getD p 0 ^ 3 % 5 := fun i => by
   unfold normAt
   simp only [List.getD, List.getElem?_map]
   cases (redB B (evP pts (mono m)))[i]? with
   | none => simp
   | some y => simp
 refine ⟨fun e he => ?_, List.pairwise_append.mpr ⟨H.tri, List.pairwise_singleton _ _, fun x hx y hy => ?_⟩⟩
 · rcases List.mem_append.mp he with he | he
   · exact (H.more up).ent e he
   · rw [List.mem_singleton.mp he]
     refine ⟨h1, ⟨_, by dsimp only; rw [r1, norm_ev], .lin _ .zero (.lin _ (.mono (List.mem_append_right _ (.head _))) (s1.more up))⟩, ?_⟩
     dsimp only
     rw [getn]
     refine cube _ ?_ h2
     rw [r1]
     exact evP_getD_emod _ _
 · rw [List.mem_singleton.mp hy]
   dsimp only
   rw [getn, z1 x hx]
   simp
theorem BaseOk.left {ms : List Mon} {B : List (Nat × List Int)} (H : BaseOk pts ms B) {χ : Nat → Nat → Nat → Bool} (hχ : ∀ a b c : Nat, χ a b c = true → ((a : Int), (b : Int), (c : Int)) ∈ pts) {m : Mon} (hg : inGrid m) (hl : m.2.2 < cntC χ m.1 m.2.1) (hm : ∀ s ∈ ms, lexLt s m) : placesOf pts (redB B (evP pts (mono m))) ≠ [] := by
 intro h0
 obtain ⟨⟨h', r1, s1⟩, z1⟩ := red_ev (mono m) B H
 have hv := Led.vanish hg ((Led.self hg).lin (s1.led hg hm) 1) hl fun a b c _ _ _ q => by
   obtain ⟨i, hi⟩ := List.getElem?_of_mem (hχ a b c q)
   have hlt := (List.getElem?_eq_some_iff.mp hi).1
   have : (redB B (evP pts (mono m))).getD i 0 = 0 := by
     by_cases e : (redB B (evP pts (mono m))).getD i 0 = 0
     · exact e
     · have : i ∈ placesOf pts (redB B (evP pts (mono m))) := List.mem_filter.mpr ⟨List.mem_range.mpr hlt, decide_eq_true e⟩
       rw [h0] at this
       cases this
   rw [r1, evP_get _ hi] at this
   exact Int.dvd_of_emod_eq_zero this
 revert hv
 decide
theorem BaseOk.grow {χ : Nat → Nat → Nat → Bool} (hχ : ∀ a b c : Nat, χ a b c = true → ((a : Int), (b : Int), (c : Int)) ∈ pts) : ∀ (ts ms : List Mon) (B : List (Nat × List Int)), BaseOk pts ms B → (∀ t ∈ ts, inGrid t ∧ t.2.2 < cntC χ t.1 t.2.1 ∧ ∀ s ∈ ms, lexLt s t) → ts.Pairwise lexLt → B.length + ts.length ≤ pts.length
 | [], _, B, H, _, _ => H.few
 | t :: ts, ms, B, H, h, hp => by
   obtain ⟨g1, g2, g3⟩ := h t (.head _)
   have hne := H.left hχ g1 g2 g3
   cases hq : placesOf pts (redB B (evP pts (mono t))) with
   | nil => exact absurd hq hne
   | cons p ps =>
     obtain ⟨k1, k2⟩ := List.pairwise_cons.mp hp
     have := BaseOk.grow hχ ts (ms ++ [t]) _ (H.keep hq) (fun x hx => ⟨(h x (.tail _ hx)).1, (h x (.tail _ hx)).2.1, fun s hs => (List.mem_append.mp hs).elim ((h x (.tail _ hx)).2.2 s) fun hs => by rw [List.mem_singleton.mp hs]; exact k1 x hx⟩) k2
     rw [List.length_append] at this
     simp only [List.length_cons, List.length_nil] at this ⊢
     omega
theorem just_true {χ : Nat → Nat → Nat → Bool} (hχ : ∀ a b c : Nat, χ a b c = true → ((a : Int), (b : Int), (c : Int)) ∈ pts) {T : List Mon} (hT : ∀ t ∈ T, inGrid t ∧ t.2.2 < cntC χ t.1 t.2.1) :
   ∀ (ls ms : List Mon) (B : List (Nat × List Int)), BaseOk pts ms B → ls.Pairwise lexLt → (∀ m ∈ ls, ∀ s ∈ ms, lexLt s m) → pts.length ≤ B.length + (ls.filter fun m => decide (m ∈ T)).length → justGo pts T ls B = true
 | [], _, _, _, _, _, _ => rfl
 | m :: ls, ms, B, H, hp, hm, hn => by
   obtain ⟨k1, k2⟩ := List.pairwise_cons.mp hp
   have hm' : ∀ x ∈ ls, ∀ s ∈ ms ++ [m], lexLt s x := fun x hx s hs => (List.mem_append.mp hs).elim (hm x (.tail _ hx) s) fun hs => by rw [List.mem_singleton.mp hs]; exact k1 x hx
   unfold justGo
   cases hq : placesOf pts (redB B (evP pts (mono m))) with
   | nil =>
     have ht : m ∉ T := fun h => H.left hχ (hT m h).1 (hT m h).2 (hm m (.head _)) hq
     dsimp only
     rw [if_neg ht]
     refine just_true hχ hT ls (ms ++ [m]) B (H.more fun x hx => List.mem_append_left _ hx) k2 hm' ?_
     rw [List.filter_cons, if_neg (by simpa using ht)] at hn
     exact hn
   | cons p ps =>
     have HK := H.keep hq
     dsimp only
     by_cases ht : m ∈ T
     · rw [if_pos ht]
       refine just_true hχ hT ls (ms ++ [m]) _ HK k2 hm' ?_
       rw [List.filter_cons, if_pos (by simpa using ht)] at hn
       simp only [List.length_append, List.length_cons, List.length_nil] at hn ⊢
       omega
     · exfalso
       rw [List.filter_cons, if_neg (by simpa using ht)] at hn
       have := HK.grow hχ (ls.filter fun m => decide (m ∈ T)) _ _ (fun t h => by
         obtain ⟨h1, h2⟩ := List.mem_filter.mp h
         have h2 := of_decide_eq_true h2
         exact ⟨(hT t h2).1, (hT t h2).2, hm' t h1⟩) (k2.sublist List.filter_sublist)
       rw [List.length_append] at this
       simp only [List.length_cons, List.length_nil] at this
       omega
end
end
section
theorem three_filter (p : Nat → Bool) : three p = ((List.range 3).filter p).length := by
 rcases Bool.eq_false_or_eq_true (p 0) with h0 | h0 <;> rcases Bool.eq_false_or_eq_true (p 1) with h1 | h1 <;> rcases Bool.eq_false_or_eq_true (p 2) with h2 | h2 <;> simp [three, List.range, List.range.loop, h0, h1, h2]
noncomputable def pre (b : Array UInt8) (n : Nat) (q : List Nat) : Bool := decide (q ∈ (growN b n).map Prod.fst)
theorem pre_iff {b : Array UInt8} {n : Nat} {q : List Nat} : pre b n q = true ↔ ∃ i d, i < n ∧ d < 3 ∧ q = (ptOf b i).take (d + 1) := by
 unfold pre
 rw [decide_eq_true_iff]
 constructor
 · intro h
   obtain ⟨x, hx, rfl⟩ := List.mem_map.mp h
   obtain ⟨i, d, h1, h2, h3⟩ := growN_mem hx
   exact ⟨i, d, h1, h2, congrArg Prod.fst h3⟩
 · rintro ⟨i, d, h1, h2, rfl⟩
   exact growN_has h1 h2
theorem take_take {l : List Nat} {a b : Nat} (h : a ≤ b) : (l.take b).take a = l.take a := by rw [List.take_take, Nat.min_eq_left h]
theorem pre_up {b : Array UInt8} {n : Nat} {q : List Nat} {v : Nat} (h : pre b n (q ++ [v]) = true) (hq : q ≠ []) : pre b n q = true := by
 obtain ⟨i, d, h1, h2, h3⟩ := pre_iff.mp h
 have hl : q.length + 1 = d + 1 := by
   have := congrArg List.length h3
   rw [List.length_append, List.length_take] at this
   have h4 : (ptOf b i).length = 3 := rfl
   simp at this
   omega
 cases d with
 | zero =>
   have : q.length = 0 := by exact Eq.symm (Nat.add_right_cancel (id (Eq.symm hl)))
   exact absurd (List.length_eq_zero_iff.mp this) hq
 | succ d =>
   refine pre_iff.mpr ⟨i, d, h1, by exact Nat.lt_of_succ_lt h2, ?_⟩
   have := congrArg (List.take (d + 1)) h3
   rw [take_take (Nat.le_add_right (d + 1) 1), List.take_append_of_le_length (by omega), List.take_of_length_le (by omega)] at this
   exact this
noncomputable def small3 (b : Array UInt8) (n : Nat) : Prop := ∀ i, i < n → ∀ v ∈ ptOf b i, v < 3
theorem pre_small {b : Array UInt8} {n : Nat} (hs : small3 b n) {q : List Nat} (h : pre b n q = true) : ∀ v ∈ q, v < 3 := by
 obtain ⟨i, d, h1, h2, rfl⟩ := pre_iff.mp h
 exact fun v hv => hs i h1 v (List.mem_of_mem_take hv)
theorem nd_pre {b : Array UInt8} {n : Nat} {Ns : List Nd} (h : tellOf Ns = ([], 0) :: growN b n) {p : List Nat} (hp : p ≠ []) : (∃ e ∈ Ns, e.p = p) ↔ pre b n p = true := by
 unfold pre
 rw [decide_eq_true_iff]
 have hm : Ns.map (·.p) = (tellOf Ns).map Prod.fst := by unfold tellOf; rw [List.map_map]; rfl
 constructor
 · rintro ⟨e, he, rfl⟩
   have : e.p ∈ Ns.map (·.p) := List.mem_map.mpr ⟨e, he, rfl⟩
   rw [hm, h] at this
   rcases List.mem_cons.mp this with q | q
   · exact absurd q hp
   · exact q
 · intro hq
   have : p ∈ Ns.map (·.p) := by rw [hm, h]; exact .tail _ hq
   obtain ⟨e, he, q⟩ := List.mem_map.mp this
   exact ⟨e, he, q⟩
theorem kids_filter {b : Array UInt8} {n : Nat} {Ns : List Nd} (h : tellOf Ns = ([], 0) :: growN b n) (hn : (Ns.map (·.p)).Nodup) (hs : small3 b n) (p : List Nat) (φ : List Nat → Bool) :
   ((kidsOf Ns p).filter fun e => φ e.p).length = three fun v => pre b n (p ++ [v]) && φ (p ++ [v]) := by
 rw [three_filter]
 have hperm : (((kidsOf Ns p).filter fun e => φ e.p).map (·.p)).Perm (((List.range 3).filter fun v => pre b n (p ++ [v]) && φ (p ++ [v])).map fun v => p ++ [v]) := by
   refine (List.perm_ext_iff_of_nodup ?_ ?_).mpr fun q => ?_
   · have : ((kidsOf Ns p).filter fun e => φ e.p).Sublist Ns := List.filter_sublist.trans List.filter_sublist
     exact hn.sublist (this.map _)
   · rw [List.nodup_iff_pairwise_ne, List.pairwise_map]
     refine List.Pairwise.imp ?_ (List.Pairwise.filter _ (List.nodup_iff_pairwise_ne.mp List.nodup_range))
     intro x y hxy e
     exact hxy (by simpa using List.append_cancel_left e)
   · constructor
     · intro hq
       obtain ⟨e, he, rfl⟩ := List.mem_map.mp hq
       obtain ⟨h1, h2⟩ := List.mem_filter.mp he
       obtain ⟨k1, k2, k3⟩ := kidsOf_mem h1
       have hpr : pre b n e.p = true := (nd_pre h k2).mp ⟨e, k1, rfl⟩
       have ee : p ++ [e.p.getLast k2] = e.p := by rw [← k3]; exact List.dropLast_concat_getLast k2
       refine List.mem_map.mpr ⟨e.p.getLast k2, List.mem_filter.mpr ⟨List.mem_range.mpr (pre_small hs hpr _ (List.getLast_mem k2)), ?_⟩, ee⟩
       rw [ee, hpr, h2]; rfl
     · intro hq
       obtain ⟨v, hv, rfl⟩ := List.mem_map.mp hq
       obtain ⟨_, h2⟩ := List.mem_filter.mp hv
       obtain ⟨h3, h4⟩ := Bool.and_eq_true_iff.mp h2
       obtain ⟨e, he, ep⟩ := (nd_pre h (by simp)).mpr h3
       exact List.mem_map.mpr ⟨e, List.mem_filter.mpr ⟨List.mem_filter.mpr ⟨he, decide_eq_true ⟨by rw [ep]; simp, by rw [ep]; simp⟩⟩, by rw [ep]; exact h4⟩, ep⟩
 have := hperm.length_eq
 simpa using this
noncomputable def chi (b : Array UInt8) (n : Nat) (x y z : Nat) : Bool := pre b n [z, y, x]
theorem and_lt {p : Bool} {m k : Nat} (h : p = false → m = 0) : (p && decide (k < m)) = decide (k < m) := by
 cases p with
 | true => rfl
 | false => rw [h rfl]; simp
theorem three_zero {p : Nat → Bool} (h : ∀ v, p v = false) : three p = 0 := by simp [three, h]
theorem kidN_eq {b : Array UInt8} {n : Nat} {Ns : List Nd} (h : tellOf Ns = ([], 0) :: growN b n) (hn : (Ns.map (·.p)).Nodup) (hs : small3 b n) (e : Nd) : kidN Ns e = three fun v => pre b n (e.p ++ [v]) := by
 have := kids_filter h hn hs e.p fun _ => true
 rw [List.filter_eq_self.mpr (fun _ _ => rfl)] at this
 rw [show kidN Ns e = (kidsOf Ns e.p).length from rfl, this]
 exact three_congr fun v => Bool.and_true _
theorem rowN_eq {b : Array UInt8} {n : Nat} {Ns : List Nd} (h : tellOf Ns = ([], 0) :: growN b n) (hn : (Ns.map (·.p)).Nodup) (hs : small3 b n) (e : Nd) (j : Nat) : rowN Ns e j = three fun v => decide (j < three fun u => pre b n (e.p ++ [v] ++ [u])) := by
 unfold rowN
 rw [show ((kidsOf Ns e.p).filter fun x => decide (j < kidN Ns x)) = (kidsOf Ns e.p).filter fun x => (fun q : List Nat => decide (j < three fun u => pre b n (q ++ [u]))) x.p from List.filter_congr fun x _ => by rw [kidN_eq h hn hs x]]
 rw [kids_filter h hn hs e.p fun q => decide (j < three fun u => pre b n (q ++ [u]))]
 refine three_congr fun v => and_lt fun q => three_zero fun u => ?_
 cases hp : pre b n (e.p ++ [v] ++ [u]) with
 | false => rfl
 | true => rw [pre_up hp (by simp)] at q; cases q
theorem pileN_eq {b : Array UInt8} {n : Nat} {Ns : List Nd} (h : tellOf Ns = ([], 0) :: growN b n) (hn : (Ns.map (·.p)).Nodup) (hs : small3 b n) (j k : Nat) : pileN Ns j k = cntC (chi b n) j k := by
 unfold pileN
 rw [show ((kidsOf Ns []).filter fun x => decide (k < rowN Ns x j)) = (kidsOf Ns []).filter fun x => (fun q : List Nat => decide (k < three fun v => decide (j < three fun u => pre b n (q ++ [v] ++ [u])))) x.p from List.filter_congr fun x _ => by rw [rowN_eq h hn hs x]]
 rw [kids_filter h hn hs [] fun q => decide (k < three fun v => decide (j < three fun u => pre b n (q ++ [v] ++ [u])))]
 unfold cntC
 refine three_congr fun v => ?_
 show (pre b n ([] ++ [v]) && decide (k < three fun y => decide (j < three fun x => pre b n ([] ++ [v] ++ [y] ++ [x])))) = decide (k < cntB (chi b n) j v)
 refine and_lt fun q => three_zero fun y => decide_eq_false ?_
 have : (three fun x => pre b n ([] ++ [v] ++ [y] ++ [x])) = 0 := three_zero fun x => by
   cases hp : pre b n ([] ++ [v] ++ [y] ++ [x]) with
   | false => rfl
   | true => rw [pre_up (pre_up hp (by simp)) (by simp)] at q; cases q
 rw [this]; exact Nat.not_lt_zero _
theorem chi_iff {b : Array UInt8} {n : Nat} {x y z : Nat} : chi b n x y z = true ↔ ∃ i, i < n ∧ ptOf b i = [z, y, x] := by
 unfold chi
 rw [pre_iff]
 constructor
 · rintro ⟨i, d, h1, h2, h3⟩
   have hl := congrArg List.length h3
   rw [List.length_take] at hl
   have h4 : (ptOf b i).length = 3 := rfl
   simp at hl
   obtain rfl : d = 2 := by omega
   exact ⟨i, h1, h3.symm⟩
 · rintro ⟨i, h1, h2⟩
   exact ⟨i, 2, h1, by decide, by rw [h2]; rfl⟩
theorem cntC_congr {χ χ' : Nat → Nat → Nat → Bool} (h : ∀ a b c, a < 3 → b < 3 → c < 3 → χ a b c = χ' a b c) (j k : Nat) : cntC χ j k = cntC χ' j k := by
 have t : ∀ {p q : Nat → Bool}, (∀ n, n < 3 → p n = q n) → three p = three q := fun {p q} hh => by
   unfold three; rw [hh 0 (by decide), hh 1 (by decide), hh 2 (by decide)]
 unfold cntC
 refine t fun c hc => ?_
 have : cntB χ j c = cntB χ' j c := by
   unfold cntB
   refine t fun b hb => ?_
   have : cntA χ b c = cntA χ' b c := t fun a ha => h a b c ha hb hc
   rw [this]
 rw [this]
end
section
theorem safeC_b (id : String) (a : Args) : safeC (.builtin id a) = !(["bytearray.__contains__", "bytearray.__mod__", "bytearray.__rmod__", "_struct.pack_into.held", "bytearray.find.held"].contains id || PySem.Builtin.Bytes.decodersThatHold.contains id) := rfl
theorem unsafe_bytearray__contains {a : Args} : safeC (.builtin "bytearray.__contains__" a) = false := (safeC_b _ a).trans (by decide +kernel)
theorem unsafe_bytearray__mod {a : Args} : safeC (.builtin "bytearray.__mod__" a) = false := (safeC_b _ a).trans (by decide +kernel)
theorem unsafe_bytearray__rmod {a : Args} : safeC (.builtin "bytearray.__rmod__" a) = false := (safeC_b _ a).trans (by decide +kernel)
theorem unsafe_struct_pack_into_held {a : Args} : safeC (.builtin "_struct.pack_into.held" a) = false := (safeC_b _ a).trans (by decide +kernel)
theorem unsafe_bytearray_find_held {a : Args} : safeC (.builtin "bytearray.find.held" a) = false := (safeC_b _ a).trans (by decide +kernel)
theorem safe_dec {id : String} {a : Args} (h : safeC (.builtin id a) = true) : PySem.Builtin.Bytes.decodersThatHold.contains id = false := by
 rw [safeC_b] at h
 cases hc : PySem.Builtin.Bytes.decodersThatHold.contains id with
 | false => rfl
 | true => rw [hc, Bool.or_true] at h; cases h
section
variable {α : Type} {M : Model} {A : Around} {E : Value → Shared → Prop} {s : Shared}
theorem wpC_stackAny {f : Code × Pos → Bool} {Q : Bool → Shared → Prop} (hf : ∀ c p, safeC c = true → f (c, p) = false) (h : Q false s) : wpC M A (do return (← stack).any f) Q E s := fun Γ p _ k1 k2 => by
 show Q (((Γ.code, p) :: Γ.below).any f) s
 rw [List.any_eq_false.mpr fun q hq => ?_]
 · exact h
 · rcases List.mem_cons.mp hq with rfl | hq
   · rw [hf _ _ k2]; decide
   · rw [show q = (q.1, q.2) from rfl, hf _ _ (k1 q hq)]; decide
theorem not_unsafe {x y : String} {args : Args} (hs : safeC (.builtin x args) = true) (hy : safeC (.builtin y args) = false) : ¬ x = y := fun e => Bool.noConfusion (hy.symm.trans (e ▸ hs))
theorem exported_clean {a : Addr} {Q : Bool → Shared → Prop} (h : Q false s) : wpC M A (Builtin.Bytes.exported (.ref a)) Q E s := by
 unfold Builtin.Bytes.exported
 refine wpC_stackAny (fun c p hs => ?_) h
 delta Builtin.Bytes.exported.match_1
 cases c <;> try rfl
 refine (dif_neg (not_unsafe hs unsafe_bytearray__contains)).trans ?_
 refine (dif_neg (not_unsafe hs unsafe_bytearray__mod)).trans ?_
 refine (dif_neg (not_unsafe hs unsafe_bytearray__rmod)).trans ?_
 refine (dif_neg (not_unsafe hs unsafe_struct_pack_into_held)).trans ?_
 refine (dif_neg (not_unsafe hs unsafe_bytearray_find_held)).trans ?_
 rename_i id args
 obtain ⟨pos, kw⟩ := args
 cases pos with
 | nil => rfl
 | cons v t =>
   show (_ && _) = false
   rw [safe_dec hs, Bool.and_false]
end
namespace F
theorem by_mro : mroOf (.type "bytearray") = pure [.type "bytearray", .type "object"] := by rw [mroOf_type]; kernel_rfl
theorem by_lookup_new : typeLookup (.type "bytearray") "__new__" = pure (some (.builtin "bytearray.__new__")) := by rw [typeLookup_type, builtinLookup_eq_fast]; kernel_rfl
theorem by_slot_init : Slot "bytearray" "__init__" "bytearray.__init__" :=
 .of (owner := "bytearray") (n := "__init__") (by rw [typeLookup_type, builtinLookup_eq_fast]; kernel_rfl) (by decide +kernel) (by decide +kernel) (by decide +kernel)
   (by first | exact .inl (by decide +kernel) | exact .inr (by decide +kernel)) (by rw [isSubtype_type]; kernel_rfl)
theorem by_slot_set : Slot "bytearray" "__setitem__" "bytearray.__setitem__" :=
 .of (owner := "bytearray") (n := "__setitem__") (by rw [typeLookup_type, builtinLookup_eq_fast]; kernel_rfl) (by decide +kernel) (by decide +kernel) (by decide +kernel)
   (by first | exact .inl (by decide +kernel) | exact .inr (by decide +kernel)) (by rw [isSubtype_type]; kernel_rfl)
theorem by_called : TypeCalled "bytearray" "bytearray.__new__" "bytearray.__init__" :=
 ⟨by decide +kernel, by decide +kernel, ⟨_, _, by_mro⟩, madeBy_type by_mro by_lookup_new (by decide +kernel), by decide +kernel, by rw [isSubtype_type]; kernel_rfl, by_slot_init⟩
theorem by_typeCall (a : Value) : checkTypeCall "bytearray" ⟨[a], []⟩ = pure () := by kernel_rfl
theorem by_newCall (a : Value) : checkBuiltinCall "bytearray.__new__" ⟨[.type "bytearray", a], []⟩ = pure () := by kernel_rfl
theorem by_plain : plainId "bytearray.__new__" = true := by decide +kernel
theorem by_entry : entryFor table "bytearray.__new__" = some Builtin.«list.__new__» :=
 entryFor_alias (id' := "list.__new__") (by kernel_rfl) (by decide +kernel) (by decide +kernel) (by kernel_rfl)
theorem by_entry_init : entryFor table "bytearray.__init__" = some Builtin.«bytearray.__init__» := by first | exact entryFor_of_fast (by kernel_rfl) | exact entryFor_of_tree (by kernel_rfl)
theorem by_entry_set : entryFor table "bytearray.__setitem__" = some Builtin.«bytearray.__setitem__» := by first | exact entryFor_of_fast (by kernel_rfl) | exact entryFor_of_tree (by kernel_rfl)
theorem by_args_init (a b : Value) : argsOk "bytearray.__init__" ⟨[a, b], []⟩ := by
 unfold argsOk; rw [signature?_of (id := "bytearray.__init__") (n := ['_', '_', 't', 'i', 'n', 'i', '_', '_']) (o := ['y', 'a', 'r', 'r', 'a', 'e', 't', 'y', 'b']) (rows := Manifest.sig_bytearray) (by kernel_rfl) (by kernel_rfl)]; kernel_rfl
theorem by_args_set (a b c : Value) : argsOk "bytearray.__setitem__" ⟨[a, b, c], []⟩ := by
 unfold argsOk; rw [signature?_of (id := "bytearray.__setitem__") (n := ['_', '_', 'm', 'e', 't', 'i', 't', 'e', 's', '_', '_']) (o := ['y', 'a', 'r', 'r', 'a', 'e', 't', 'y', 'b']) (rows := Manifest.sig_bytearray) (by kernel_rfl) (by kernel_rfl)]; kernel_rfl
theorem by_sub : isSubtype (.type "bytearray") (.type "bytearray") = pure true := by rw [isSubtype_type]; kernel_rfl
theorem by_bind (v : Value) : Builtin.Bytes.bindOptional "bytearray.__init__" "bytearray" ["source", "encoding", "errors"] [v] [] = pure [some v, none, none] := by kernel_rfl
theorem by_release : typeLookup (.type "bytearray") "__release_buffer__" = pure (some (.builtin "bytearray.__release_buffer__")) := by rw [typeLookup_type, builtinLookup_eq_fast]; kernel_rfl
theorem by_int_index : typeLookup (.type "int") "__index__" = pure (some (.builtin "int.__index__")) := by rw [typeLookup_type, builtinLookup_eq_fast]; kernel_rfl
end F
theorem owner_by_new : ("bytearray.__new__".splitOn ".__new__").headD "" = "bytearray" := by
 rw [PySem.W.splitQ_eq]
 decide +kernel
section
variable {prog : Program} {w : World} {A : Around} {E : Value → Shared → Prop} {R : Result → Shared → Prop} {s : Shared}
theorem codeC_mono {M : Model} {c : Code} {R' : Result → Shared → Prop} (h : codeC M A c R s) (hR : ∀ r s, R r s → R' r s) : codeC M A c R' s := fun Γ p hc hΓ k1 => wpCode_mono hR (h Γ p hc hΓ k1)
theorem codeC_builtin {id : String} {args : Args} {b : Builtin} (hb : entryFor table id = some b) (hs : safeC (.builtin id args) = true)
   (h : wpC (model prog w) (A.under (.builtin id args)) (b args) (fun fin s' => match fin with | .done f => R (.ok f) s' | .again c' => c'.quiet = true ∧ codeC (model prog w) A c' R s') (fun e s' => R (.error e) s') s) :
   codeC (model prog w) A (.builtin id args) R s := by
 refine codeC_of_tree hs ?_
 show wpC _ _ (match entryFor table id with | some b => b args | none => unsupported ((withoutEnding? id "#data").getD id)) _ _ s
 rw [hb]; exact h
theorem codeC_call_builtin {id : String} {args : Args} {b : Builtin} (hq : plainId id = true) (hb : entryFor table id = some b) (hs : safeC (.builtin id args) = true)
   (h : wpAny (model prog w) A.in1 (checkBuiltinCall id args) (fun _ s₁ => wpC (model prog w) A.in1 (b args) (fun fin s' => match fin with | .done f => R (.ok f) s' | .again c' => c'.quiet = true ∧ codeC (model prog w) A c' R s') (fun e s' => R (.error e) s') s₁)
     (fun e s' => R (.error e) s') s) : codeC (model prog w) A (.call (.builtin id) args) R s := by
 refine codeC_of_tree rfl ?_
 show wpC _ A.in1 (do checkBuiltinCall id args; again (.builtin id args)) _ _ s
 exact wpC_then (wpAny_mono h (fun _ s₁ h₁ => wpC_pure (And.intro (plainId_quiet hq args) (codeC_builtin hb hs (by rw [Around.under_plainId hq args]; exact h₁)))) fun _ _ h' => h')
theorem by_new (a : Value) {Q₁ : Value → Shared → Prop}
   (h : Q₁ (.ref s.heap.objs.size) { s with heap := s.heap.push { cls := .type "bytearray", data := .bytearray #[] } }) :
   codeAny (model prog w) A (.call (.builtin "bytearray.__new__") ⟨[.type "bytearray", a], []⟩) (wants Q₁ E) s := by
 refine codeAny_of_tree ?_
 show wpAny _ A.in1 (do checkBuiltinCall "bytearray.__new__" ⟨[.type "bytearray", a], []⟩; again (.builtin "bytearray.__new__" ⟨[.type "bytearray", a], []⟩)) _ _ s
 refine wpAny_bind (wpAny_of_eq (F.by_newCall a) (wpAny_pure ⟨plainId_quiet F.by_plain _, codeAny_builtin_stack F.by_entry rfl fun p st => ?_⟩))
 rw [Around.under_plainId F.by_plain _]
 have hsub := F.by_sub
 have hown := owner_by_new
 obtain ⟨hp, g, d, tk, os⟩ := s
 simp only [hown]
 wp_walk
 exact h
theorem by_write {a : Addr} {d : Array UInt8} {f : Array UInt8 → Array UInt8} {Q : Unit → Shared → Prop} (hS : s.heap.get? a = some { cls := .type "bytearray", data := .bytearray d }) (hz : (f d).size ≤ sizeLine)
   (h : ({ s with heap := s.heap.update a (Obj.mapBytearray f) } : Shared).heap.get? a = some { cls := .type "bytearray", data := .bytearray (f d) } → Q () { s with heap := s.heap.update a (Obj.mapBytearray f) }) : wpAny (model prog w) A (Builtin.Bytes.write (.ref a) f) Q E s := by
 show wpAny _ _ (updateBytearray a f) _ _ _
 unfold updateBytearray
 refine wpAny_bind (wpAny_load hS ?_)
 show wpAny _ _ (update a (Obj.mapBytearray f) >>= fun _ => lookBehind a) _ _ _
 refine wpAny_bind (wpAny_update hS ?_)
 have hS₂ : (s.heap.update a (Obj.mapBytearray f)).get? a = some { cls := .type "bytearray", data := .bytearray (f d) } := Heap.get?_update_self (Obj.mapBytearray f) hS rfl
 refine wpAny_lookBehind hS₂ ?_ (h hS₂)
 show (if (f d).size > sizeLine then some "bytearray:memory" else none) = none
 rw [if_neg]
 omega
theorem wpC_if_false {α : Type} {M : Model} {c : Bool} {a b : Sem α} {Q : α → Shared → Prop} (hc : c = false) (h : wpC M A b Q E s) : wpC M A (if c = true then a else b) Q E s := by subst hc; exact h
theorem wpAny_ite_true {α : Type} {M : Model} {c : Prop} [Decidable c] {a b : Sem α} {Q : α → Shared → Prop} (hc : c) (h : wpAny M A a Q E s) : wpAny M A (if c then a else b) Q E s := by rw [if_pos hc]; exact h
theorem wpAny_ite_false {α : Type} {M : Model} {c : Prop} [Decidable c] {a b : Sem α} {Q : α → Shared → Prop} (hc : ¬ c) (h : wpAny M A b Q E s) : wpAny M A (if c then a else b) Q E s := by rw [if_neg hc]; exact h
theorem by_init {a : Addr} {n : Nat} {t : Tok} (hS : s.heap.get? a = some { cls := .type "bytearray", data := .bytearray #[] }) (h0 : 0 < n) (hn : n ≤ 65536)
   (h : ∀ h', s.heap.SameBut a h' → h'.get? a = some { cls := .type "bytearray", data := .bytearray (Array.replicate n 0) } → R (.ok (.ret .none)) { s with heap := h' }) :
   codeC (model prog w) A (.call (.builtin "bytearray.__init__") ⟨[.ref a, .int n t], []⟩) R s := by
 have hT : s.TypeIs (.ref a) "bytearray" := ⟨_, hS, rfl⟩
 refine codeC_call_builtin F.by_slot_init.plain F.by_entry_init (by rw [safeC_b]; decide +kernel) (F.by_slot_init.check _ _ _ _ _ _ _ _ hT (F.by_args_init _ _) ?_)
 unfold Builtin.«bytearray.__init__»
 show wpC _ _ (Builtin.Bytes.ownRelease (.ref a) >>= _) _ _ _
 refine wpC_then ?_
 with_reducible refine blind ?_
 intro Q1 hQ1
 unfold Builtin.Bytes.ownRelease Builtin.Bytes.slotIsOwn
 refine wpAny_bind (wpAny_bind (wpAny_specialOf hT F.by_release ?_))
 dsimp only
 refine bm_if_false (by decide +kernel) ?_
 refine wpAny_isInstance hT ((congrArg (fun x => isSubtype (.type "bytearray") (.type x)) (show ("bytearray.__release_buffer__".dropRight ("__release_buffer__".length + 1)) = "bytearray" by decide +kernel)).trans F.by_sub) (wpAny_pure (hQ1 _ _ ?_))
 refine wpC_if_false rfl ?_
 refine wpC_then (wpAny_of_eq (F.by_bind _) ?_)
 dsimp only
 refine wpC_then (wpAny_of_eq (a := ()) rfl ?_)
 refine wpC_then (wpAny_of_eq (a := ()) rfl ?_)
 refine wpC_bind ?_
 unfold orM
 refine wpC_bind (exported_clean ?_)
 show wpC _ _ (Builtin.Bytes.exportsOf (.ref a) >>= _) _ _ _
 refine wpC_of ?_
 unfold Builtin.Bytes.exportsOf
 refine wpAny_bind (wpAny_bind (wpAny_load hS ?_))
 dsimp only
 refine wpAny_pure (wpAny_pure ?_)
 refine wpC_if_false rfl (wpC_of ?_)
 refine wpAny_bind (by_write hS (Nat.zero_le _) fun hS₂ => ?_)
 have e1 : asStr? (.int (n : Int) t) = pure none := rfl
 with_reducible refine wpAny_bind ?_
 with_reducible refine wpAny_of_eq e1 ?_
 simp only [Option.isSome_none, Bool.false_eq_true, if_false]
 with_reducible refine wpAny_bind ?_
 with_reducible refine wpAny_pure ?_
 have hT2 : ({ s with heap := s.heap.update a (Obj.mapBytearray fun _ => #[]) } : Shared).TypeIs (.int n t) "int" := typeIs_int _ _ _
 with_reducible refine wpAny_bind ?_
 with_reducible refine wpAny_specialOf hT2 F.by_int_index ?_
 with_reducible refine wpAny_ite_true rfl ?_
 have e2 : asIndex (.int (n : Int) t) = pure (n : Int) := rfl
 with_reducible refine wpAny_bind ?_
 with_reducible refine wpAny_attempt ?_
 with_reducible refine wpAny_of_eq e2 ?_
 dsimp only
 have e3 : Builtin.Bytes.fitsIndex (n : Int) = true := by simp only [Builtin.Bytes.fitsIndex, Bool.and_eq_true, decide_eq_true_eq]; omega
 with_reducible refine wpAny_ite_false (by rw [e3]; decide) ?_
 with_reducible refine wpAny_ite_false (by omega) ?_
 with_reducible refine wpAny_ite_false (by simp only [beq_iff_eq]; omega) ?_
 have e4 : Builtin.Bytes.tooLong (n : Int).toNat = false := by
   unfold Builtin.Bytes.tooLong
   exact decide_eq_false (by rw [Int.toNat_natCast, sizeLine_eq]; omega)
 with_reducible refine wpAny_ite_false (by rw [e4]; exact Bool.false_ne_true) ?_
 with_reducible refine wpAny_bind ?_
 refine wpAny_rule ?_
 with_reducible refine wpAny_ite_true (by omega) ?_
 rw [Int.toNat_natCast]
 with_reducible refine wpAny_bind ?_
 have S1 := Heap.SameBut.update s.heap a (Obj.mapBytearray fun _ => (#[] : Array UInt8))
 refine by_write hS₂ (by simp only [Array.size_replicate, sizeLine_eq]; omega) fun hS₃ => ?_
 refine wpAny_pure ?_
 exact h _ (S1.trans (Heap.SameBut.update ..)) hS₃
theorem call_bytearray {n : Nat} {t : Tok} (h0 : 0 < n) (hn : n ≤ 65536) {Q : Value → Shared → Prop}
   (h : ∀ h', (∀ b o, s.heap.get? b = some o → h'.get? b = some o) → s.heap.objs.size ≤ h'.objs.size → h'.get? s.heap.objs.size = some { cls := .type "bytearray", data := .bytearray (Array.replicate n 0) } → Q (.ref s.heap.objs.size) { s with heap := h' }) :
   wpC (model prog w) A (call (.type "bytearray") [.int n t]) Q E s := by
 have ft := F.by_called
 obtain ⟨c, tl, hmro⟩ := ft.mro
 have hmade := ft.made
 have hsub := ft.sub
 refine wpC_call (codeC_of_tree rfl ?_)
 show wpC _ _ (callAny (.type "bytearray") _) _ _ _
 refine wpC_pure ⟨Code.quiet_builtin _ (by decide +kernel), codeC_builtin F.entry_type_call (by rw [safeC_b]; decide +kernel) ?_⟩
 rw [Around.under_plain (weight_type_call_type "bytearray" _ []) rfl]
 have h1 := ft.notType
 have h2 := ft.canCreate
 unfold Builtin.«type.__call__»
 dsimp only
 refine wpC_if_false h1 ?_
 refine wpC_if_false h2 ?_
 refine wpC_then (wpAny_of_eq (F.by_typeCall _) ?_)
 refine wpC_then (wpAny_of_eq hmro ?_)
 refine wpC_if_false rfl ?_
 refine wpC_then (wpAny_of_eq hmade ?_)
 dsimp only
 refine wpC_then (wpAny_pure ?_)
 refine wpC_then (wpAny_holding (wpAny_call (by_new _ ?_)))
 have hS : (s.heap.push { cls := .type "bytearray", data := .bytearray #[] }).get? s.heap.objs.size = some { cls := .type "bytearray", data := .bytearray #[] } := Heap.get?_push_size _ rfl
 have hT : ({ s with heap := s.heap.push { cls := .type "bytearray", data := .bytearray #[] } } : Shared).TypeIs (.ref s.heap.objs.size) "bytearray" := ⟨_, hS, rfl⟩
 refine wpC_then (wpAny_isInstance hT F.by_sub ?_)
 refine wpC_if_false rfl ?_
 refine wpC_bind (wpC_holding ?_)
 unfold callSpecial?
 refine wpC_then (wpAny_specialOf hT ft.init.lookup ?_)
 dsimp only
 refine wpC_holding ?_
 refine wpC_then (wpAny_of_eq (ft.init.bind _) ?_)
 dsimp only
 refine wpC_bind (wpC_call (by_init hS h0 hn fun h' S h3 => ?_))
 refine wpC_pure ?_
 dsimp only
 refine wpC_if_false rfl ?_
 refine wpC_pure ?_
 refine h h' (fun b o e => S.extBut b o (Nat.ne_of_lt (Heap.lt_size e)) (Heap.get?_push_of_some _ e)) (Nat.le_of_lt (Heap.lt_size h3)) h3
end
end
section
namespace F
theorem byb_buffer : typeLookup (.type "bytearray") "__buffer__" = pure (some (.builtin "bytearray.__buffer__")) := by rw [typeLookup_type, builtinLookup_eq_fast]; kernel_rfl
theorem byb_no_bytes : typeLookup (.type "bytearray") "__bytes__" = pure none := by rw [typeLookup_type, builtinLookup_eq_fast]; kernel_rfl
theorem byb_no_index : typeLookup (.type "bytearray") "__index__" = pure none := by rw [typeLookup_type, builtinLookup_eq_fast]; kernel_rfl
end F
section
variable {prog : Program} {w : World} {A : Around} {E : Value → Shared → Prop} {R : Result → Shared → Prop} {s : Shared}
theorem by_set {a : Addr} {d : Array UInt8} {k : Nat} {c : UInt8} {t u : Tok} {Q : Unit → Shared → Prop} (hS : s.heap.get? a = some { cls := .type "bytearray", data := .bytearray d }) (hz : d.size ≤ 65536) (hk : k < d.size)
   (h : ∀ h', s.heap.SameBut a h' → h'.get? a = some { cls := .type "bytearray", data := .bytearray (d.setIfInBounds k c) } → Q () { s with heap := h' }) :
   wpAny (model prog w) A (setItem (.ref a) (.int k t) (.int (c.toNat : Int) u)) Q E s := by
 have hT : s.TypeIs (.ref a) "bytearray" := ⟨_, hS, rfl⟩
 unfold setItem
 try with_reducible refine wpAny_holding ?_
 first | refine wpAny_bind (wpAny_pure ?_) | skip
 refine wpAny_bind (wpAny_sequenceKey hT (by decide) ?_)
 refine wpAny_bind (wpAny_callSpecial?_slot (name := Str.ofString "__setitem__") hT F.by_slot_set
   (wpAny_call_entry F.by_slot_set hT F.by_entry_set ?_ (F.by_args_set _ _ _)))
 show wpAny _ _ (Builtin.Bytes.subscript? (.int k t) >>= _) _ _ _
 refine wpAny_bind ?_
 with_reducible refine blind ?_
 intro Q1 hQ1
 unfold Builtin.Bytes.subscript?
 have hT2 : s.TypeIs (.int (k : Int) t) "int" := typeIs_int _ _ _
 with_reducible refine wpAny_bind ?_
 with_reducible refine wpAny_specialOf hT2 F.by_int_index ?_
 simp only [Option.isNone_some, Bool.false_eq_true, if_false]
 have e2 : asIndex (.int (k : Int) t) = pure (k : Int) := rfl
 rw [e2]
 with_reducible refine wpAny_bind ?_
 with_reducible refine wpAny_pure ?_
 have e3 : Builtin.Bytes.fitsIndex (k : Int) = true := by simp only [Builtin.Bytes.fitsIndex, Bool.and_eq_true, decide_eq_true_eq]; omega
 simp only [e3, Bool.not_true, Bool.false_eq_true, if_false]
 refine wpAny_pure (hQ1 _ _ ?_)
 show wpAny _ _ (Builtin.Bytes.byteValue (.int (c.toNat : Int) u) >>= _) _ _ _
 refine wpAny_bind ?_
 with_reducible refine blind ?_
 intro Q2 hQ2
 unfold Builtin.Bytes.byteValue
 have e4 : asIndex (.int (c.toNat : Int) u) = pure (c.toNat : Int) := rfl
 rw [e4]
 refine wpAny_bind (wpAny_pure ?_)
 have hc := c.toNat_lt
 rw [if_neg (by simp only [Bool.or_eq_true, decide_eq_true_eq]; omega)]
 refine wpAny_pure (hQ2 _ _ ?_)
 show wpAny _ _ (Builtin.Bytes.payload (.ref a) >>= _) _ _ _
 refine wpAny_bind ?_
 unfold Builtin.Bytes.payload Builtin.Bytes.payload?
 refine wpAny_bind (wpAny_bind (wpAny_load hS ?_))
 refine wpAny_pure (wpAny_pure ?_)
 have e5 : seqIndex? (k : Int) d.size = some k := by
   unfold seqIndex?
   simp only [show ¬ ((k : Int) < 0) from by omega, if_false, Bool.and_eq_true, decide_eq_true_eq]
   rw [if_pos ⟨by omega, by omega⟩, Int.toNat_natCast]
 rw [e5]
 have e6 : (Int.toNat (c.toNat : Int)).toUInt8 = c := by rw [Int.toNat_natCast]; exact UInt8.ofNat_toNat
 rw [e6]
 show wpAny _ _ (Builtin.Bytes.write (.ref a) (·.setIfInBounds k c) >>= _) _ _ _
 refine wpAny_bind (by_write hS (by rw [Array.size_setIfInBounds, sizeLine_eq]; omega) fun hS₂ => ?_)
 first
   | exact wpAny_bind (wpAny_pure (wpAny_pure ⟨.none, rfl, wpAny_pure (h _ (Heap.SameBut.update ..) hS₂)⟩))
   | exact wpAny_pure ⟨.none, rfl, wpAny_pure (h _ (Heap.SameBut.update ..) hS₂)⟩
theorem by_own_buffer {a : Addr} {d : Array UInt8} {Q : Bool → Shared → Prop} (hS : s.heap.get? a = some { cls := .type "bytearray", data := .bytearray d }) (h : Q true s) : wpAny (model prog w) A (Builtin.Bytes.slotIsOwn (.ref a) "__buffer__") Q E s := by
 have hT : s.TypeIs (.ref a) "bytearray" := ⟨_, hS, rfl⟩
 unfold Builtin.Bytes.slotIsOwn
 refine wpAny_bind (wpAny_specialOf hT F.byb_buffer ?_)
 dsimp only
 rw [show (!("bytearray.__buffer__".endsWith ("." ++ "__buffer__"))) = false by decide +kernel]
 refine bm_if_false rfl ?_
 rw [show ("bytearray.__buffer__".dropRight ("__buffer__".length + 1)) = "bytearray" by decide +kernel]
 exact wpAny_isInstance hT F.by_sub h
theorem by_own_release {a : Addr} {d : Array UInt8} {Q : Bool → Shared → Prop} (hS : s.heap.get? a = some { cls := .type "bytearray", data := .bytearray d }) (h : Q false s) : wpAny (model prog w) A (Builtin.Bytes.ownRelease (.ref a)) Q E s := by
 have hT : s.TypeIs (.ref a) "bytearray" := ⟨_, hS, rfl⟩
 unfold Builtin.Bytes.ownRelease Builtin.Bytes.slotIsOwn
 refine wpAny_bind (wpAny_bind (wpAny_specialOf hT F.by_release ?_))
 dsimp only
 rw [show (!("bytearray.__release_buffer__".endsWith ("." ++ "__release_buffer__"))) = false by decide +kernel]
 refine bm_if_false rfl ?_
 rw [show ("bytearray.__release_buffer__".dropRight ("__release_buffer__".length + 1)) = "bytearray" by decide +kernel]
 refine wpAny_isInstance hT F.by_sub (wpAny_pure h)
theorem by_buffer {a : Addr} {d : Array UInt8} {Q : Option (Array UInt8) → Shared → Prop} (hS : s.heap.get? a = some { cls := .type "bytearray", data := .bytearray d }) (h : Q (some d) s) : wpAny (model prog w) A (Builtin.Bytes.buffer? "bytes.__new__" (.ref a) true) Q E s := by
 have hT : s.TypeIs (.ref a) "bytearray" := ⟨_, hS, rfl⟩
 unfold Builtin.Bytes.buffer?
 with_reducible refine wpAny_bind ?_
 with_reducible refine wpAny_specialOf hT F.byb_buffer ?_
 dsimp only
 with_reducible refine wpAny_bind ?_
 refine by_own_buffer hS ?_
 refine bm_if_false rfl ?_
 with_reducible refine wpAny_bind ?_
 with_reducible refine wpAny_specialOf hT F.byb_buffer ?_
 show wpAny _ _ (Builtin.Bytes.ownRelease (.ref a) >>= _) _ _ _
 with_reducible refine wpAny_bind ?_
 refine by_own_release hS ?_
 refine bm_if_false rfl ?_
 refine wpAny_bind ?_
 unfold Builtin.Bytes.payload Builtin.Bytes.payload?
 refine wpAny_bind (wpAny_bind (wpAny_load hS ?_))
 refine wpAny_pure (wpAny_pure ?_)
 exact wpAny_pure h
theorem by_bytes_new {a : Addr} {d : Array UInt8} {Q : Value → Shared → Prop} (hS : s.heap.get? a = some { cls := .type "bytearray", data := .bytearray d }) (hz : d.size ≤ 65536)
   (hQ : ∀ t k, Q (.bytes d t) { s with toks := k }) :
   codeAny (model prog w) A (.call (.builtin "bytes.__new__") ⟨[.type "bytes", .ref a], []⟩) (wants Q E) s := by
 refine codeAny_of_tree ?_
 show wpAny _ A.in1 (do checkBuiltinCall "bytes.__new__" ⟨[.type "bytes", .ref a], []⟩; again (.builtin "bytes.__new__" ⟨[.type "bytes", .ref a], []⟩)) _ _ s
 refine wpAny_bind (wpAny_of_eq (F.bm_newCall _) (wpAny_pure ⟨plainId_quiet F.bm_plain _, codeAny_builtin F.bm_entry ?_⟩))
 rw [Around.under_plainId F.bm_plain _]
 have hT : s.TypeIs (.ref a) "bytearray" := ⟨_, hS, rfl⟩
 unfold Builtin.«bytes.__new__»
 refine wpAny_bind (wpAny_of_eq (a := true) rfl ?_)
 refine bm_if_false rfl ?_
 refine wpAny_bind (wpAny_of_eq F.bm_sub ?_)
 refine bm_if_false rfl ?_
 refine wpAny_bind (wpAny_of_eq (F.bm_bind _) ?_)
 refine wpAny_bind (wpAny_of_eq (a := ()) rfl ?_)
 refine wpAny_bind (wpAny_of_eq (a := ()) rfl ?_)
 refine bm_if_false rfl ?_
 refine wpAny_bind (wpAny_specialOf hT F.byb_no_bytes ?_)
 refine wpAny_bind (wpAny_bind ?_)
 show wpAny _ _ (load a >>= _) _ _ _
 refine wpAny_bind (wpAny_load hS ?_)
 refine wpAny_pure (wpAny_pure ?_)
 refine bm_if_false rfl ?_
 refine wpAny_bind (wpAny_specialOf hT F.byb_no_index ?_)
 refine bm_if_true rfl ?_
 first
   | show wpAny _ _ (Builtin.Bytes.buffer? "bytes.__new__" (.ref a) true >>= _) _ _ _
   | (refine wpAny_bind ?_; show wpAny _ _ (Builtin.Bytes.buffer? "bytes.__new__" (.ref a) true >>= _) _ _ _)
 refine wpAny_bind ?_
 refine by_buffer hS ?_
 dsimp only
 refine wpAny_bind ?_
 refine wpAny_rule ?_
 refine wpAny_bind (wpAny_mkBytes ?_ (by rw [sizeLine_eq]; omega))
 show wpAny _ _ (if (Value.type "bytes" == Value.type "bytes") = true then _ else _) _ _ _
 refine bm_if_true (by decide) ?_
 first
   | exact wpAny_pure (hQ _ _)
   | exact wpAny_bind (wpAny_pure (wpAny_pure (hQ _ _)))
theorem call_bytes_by {a : Addr} {d : Array UInt8} {Q : Value → Shared → Prop} (hS : s.heap.get? a = some { cls := .type "bytearray", data := .bytearray d }) (hz : d.size ≤ 65536)
   (hQ : ∀ t k, Q (.bytes d t) { s with toks := k }) : wpAny (model prog w) A (call (.type "bytes") [.ref a]) Q E s := by
 refine callType_codes (Q₁ := fun obj s₁ => s₁.TypeIs obj "bytes" ∧ Q obj s₁) F.bm_called (F.bm_typeCall _) F.entry_object_init
   (by_bytes_new hS hz fun t k => ⟨PySem.W.typeIs_bytes _ _ _, hQ t k⟩) fun obj s₁ h₁ => ?_
 exact ⟨h₁.1, F.args_object_init_2 obj _, object_init_meets F.bm_called.init.lookup F.bm_called.made (by decide) prog w A.in1 _ s₁ ⟨h₁.1, rfl, h₁.2⟩⟩
end
end
section
section
variable {α : Type} {M : Model} {A : Around} {E : Value → Shared → Prop} {s : Shared} {env : Env}
theorem wpC_noRaise {t : Sem α} {Q : α → Shared → Prop} (h : wpC M A t Q (fun _ _ => False) s) : wpC M A t Q E s := wpC_mono h (fun _ _ x => x) fun _ _ x => x.elim
theorem wpC_keep {vs : List Value} {m : Sem α} {Q : α → Shared → Prop} (h : wpC M A m Q E s) : wpC M A (m.keep vs) Q E s := fun Γ p hΓ k1 k2 => by rw [Sem.wp_keep]; exact h Γ p hΓ k1 k2
theorem wpC_standAt {pos : Pos} {Q : Unit → Shared → Prop} (h : Q () s) : wpC M A (standAt pos) Q E s := wpC_of (wpAny_standAt h)
theorem wpC_spliced_cons {x : Sem Value} {rest : List (Bool × Sem Value)} {Q : List Value → Shared → Prop}
   (h : wpC M A x (fun v s₁ => wpC M A (spliced rest) (fun vs s₂ => Q (v :: vs) s₂) E s₁) E s) : wpC M A (spliced ((false, x) :: rest)) Q E s := by
 rw [spliced]
 refine wpC_bind (wpC_mono h (fun v s₁ h₁ => ?_) fun _ _ x => x)
 simp only [Bool.false_eq_true, if_false]
 exact wpC_bind (wpC_pure (wpC_bind (wpC_holding (wpC_mono h₁ (fun vs s₂ h₂ => wpC_pure h₂) fun _ _ x => x))))
theorem wpC_evalArgs {f : Value} {x : Sem Value} {rest : List (Bool × Sem Value)} {Q : Args → Shared → Prop}
   (h : wpC M A (spliced ((false, x) :: rest)) (fun vs s' => Q ⟨vs, []⟩ s') E s) : wpC M A (evalArgs f true ((false, x) :: rest) []) Q E s := by
 unfold evalArgs
 show wpC M A (spliced ((false, x) :: rest) >>= _) Q E s
 refine wpC_bind (wpC_mono h (fun vs s' h' => ?_) fun _ _ x => x)
 refine wpC_holding ?_
 exact wpC_bind (wpC_pure (wpC_bind (wpC_pure (wpC_pure h'))))
theorem wpC_tail {t : Sem Value} {Q : Value → Shared → Prop} (ht : wpC M A t Q E s) : wpC M A (t >>= fun r => holding [r] point >>= fun _ => pure r) Q E s :=
 wpC_bind (wpC_mono ht (fun r s₂ hr => wpC_then (wpAny_holding (wpAny_point (wpC_pure hr)))) fun _ _ x => x)
theorem wpC_callWith_type {pos : Pos} {T : String} {first : List Value} {args : List (Bool × Sem Value)} {Q : Value → Shared → Prop} (hplain : args.any (·.1) = false)
   (h : wpC M A (evalArgs (.type T) true args []) (fun a s₁ => wpC M A (call (.type T) (first ++ a.pos) a.kw) Q E s₁) E s) :
   wpC M A (callWith pos (.type T) first args []) Q E s := by
 unfold callWith
 refine wpC_bind (wpC_holding (wpC_mono h (fun a s₁ h₁ => wpC_bind (wpC_standAt ?_)) fun _ _ x => x))
 rw [hplain]
 refine wpC_bind (wpC_pure ?_)
 exact wpC_tail h₁
theorem wpC_callWith_fn {pos : Pos} {a : Addr} {o : Obj} {fd : FuncData} {first : List Value} {args : List (Bool × Sem Value)} {Q : Value → Shared → Prop}
   (h : wpC M A (evalArgs (.ref a) true args []) (fun x s₁ => (s₁.heap.get? a = some o ∧ o.data = .func fd) ∧ wpC M A (call (.ref a) (first ++ x.pos) x.kw) Q E s₁) E s) (hpl : args.any (·.1) = false) (hlen : args.length ≤ 30) :
   wpC M A (callWith pos (.ref a) first args []) Q E s := by
 unfold callWith
 refine wpC_bind (wpC_holding (wpC_mono h (fun x s₁ h₁ => wpC_bind (wpC_standAt ?_)) fun _ _ x => x))
 rw [hpl]
 refine wpC_bind (m := keeperOf (.ref a)) ?_
 unfold keeperOf
 refine wpC_then (wpAny_load h₁.1.1 ?_)
 rw [h₁.1.2]
 refine wpC_pure ?_
 show wpC M A (ite (args.length + 2 * 0 > 30) _ _) _ _ _
 rw [if_neg (show ¬ args.length + 2 * 0 > 30 from Nat.not_lt.mpr hlen)]
 exact wpC_tail (by unfold callMarked; exact wpC_keep h₁.2)
theorem wpC_Call_Name {x : Str} {p pos : Pos} {args : List Expr} {trees : List (Bool × Sem Value)} {Q : Value → Shared → Prop} (ht : backTo pos (starEach args env) = trees)
   (h : wpAny M A (eval (.Name x p) env) (fun f s₁ => wpC M A (callWith pos f [] trees []) Q E s₁) E s) :
   wpC M A (eval (.Call (.Name x p) args [] pos) env) Q E s := by
 subst ht
 exact wpC_then h
theorem wpC_Assign_Name {x pos' value pos} {Q : Flow → Shared → Prop}
   (h : wpC M A (eval value env) (fun v s₁ => wpC M A (storeName env x v) (fun _ => Q .next) E s₁) E s)
   (hs : swapsWith value (some (.Name x pos')) pos.line env = pure false := by rfl) :
   wpC M A (exec (.Assign [.Name x pos'] value pos) env) Q E s := fun Γ p hΓ k1 k2 => by
 simp only [exec_Assign_Name env x pos' value pos hs, Sem.wp_bind', Sem.wp_cmd_standAt, Sem.wp_bindName, Sem.wp_pure']
 exact Sem.wp_mono M Γ _ (fun v _ s₁ h₁ => h₁ Γ _ hΓ k1 k2) (fun _ _ _ h' => h') _ _ (h Γ _ hΓ k1 k2)
theorem wpC_isTrue_Compare1 {l op r pos whole} {Q : Bool → Shared → Prop}
   (h : wpC M A (eval l env) (fun a s₁ => wpC M A (eval r env) (fun b s₂ => wpC M A (compareOp op a b)
     (fun c s₃ => wpC M A (truthy c) Q E s₃) E s₂) E s₁) E s)
   (hm : behindInMarks op r = false := by with_unfolding_all rfl) : wpC M A (isTrue (.Compare l [op] [r] pos) env whole) Q E s := fun Γ p hΓ k1 k2 => by
 simp only [isTrue_Compare1, markedBehindIn_of_false hm, Sem.wp_bind', Sem.wp_holding, Sem.wp_cmd_standAt, Sem.wp_operate]
 exact Sem.wp_mono M Γ _ (fun a p₁ s₁ h₁ => Sem.wp_mono M Γ _ (fun b _ s₂ h₂ => Sem.wp_mono M Γ _ (fun c p₃ s₃ h₃ => h₃ Γ p₃ hΓ k1 k2)
   (fun _ _ _ h' => h') _ _ (h₂ Γ _ hΓ k1 k2)) (fun _ _ _ h' => h') _ _ (h₁ Γ p₁ hΓ k1 k2)) (fun _ _ _ h' => h') _ _ (h Γ p hΓ k1 k2)
theorem wpC_If {test body orelse pos} {Q : Flow → Shared → Prop}
   (h : wpC M A (isTrue test env (eval test env))
     (fun b s₂ => if b then wpC M A (execs body env) Q E s₂ else wpC M A (execs orelse env) Q E s₂) E s) :
   wpC M A (exec (.If test body orelse pos) env) Q E s := fun Γ p hΓ k1 k2 => by
 simp only [exec_If, Sem.wp_bind', Sem.wp_cmd_standAt]
 refine Sem.wp_mono M Γ _ (fun b p₁ s₁ h₁ => ?_) (fun _ _ _ h' => h') _ _ (h Γ _ hΓ k1 k2)
 cases b with
 | true => exact h₁ Γ p₁ hΓ k1 k2
 | false => exact h₁ Γ p₁ hΓ k1 k2
end
theorem lift_aroundC {α : Type} {M : Model} {d : Nat} {A : Around} {t : Sem α} {Q : α → Shared → Prop} {E : Value → Shared → Prop} {s : Shared} {env : Env} {outer : List Env}
   (hd : A.depth ≤ d) (hu : A.units ≤ 10 * d) (hf : A.frames = some (env :: outer))
   (h : wpC M (zA d A.handled A.guards env outer) t Q E s) : wpC M A t Q E s := fun Γ p hΓ =>
 h Γ p ⟨hΓ.1, Nat.le_trans hΓ.2.1 hd, fun l hl => hΓ.2.2.1 l (hf.trans hl), hΓ.2.2.2.1, Nat.le_trans hΓ.2.2.2.2 hu⟩
section
variable {prog : Program} {w : World} {A₀ A : Around} {s : Shared} {base h₀ : Heap} {outer : List Env} {L : Addr} {m : Str → Option Value} {env : Env} {news : List (Addr × Obj)} {K : Frag} {p : Program} {loose : List Str} {mean : ExcName → Option Value} {mg mb : Str → Option Value}
 {R : Result → Shared → Prop} {name qual : Str} {params : Arguments} {body : List Stmt} {scope : Scope} {dV kV doc pm cdv ct oc : Value} {an od : Option Addr} {osl : Array (Option Value)} {f : Addr} {args : Args} {binds : List (Str × Value)}
theorem codeC_def (B : Below A₀ base outer h₀) (F : Fr h₀ L s.heap m) (X₀ : K.In h₀) (N : News h₀ L s.heap news) (T : Top p loose mean mg mb h₀) (hA : A.frames = some (env :: outer)) (hf : env.frame = some L) (hke : env.scope.kind = .function)
   (ho : K.lookup f = some ⟨oc, od, .func (fnOf name qual params body scope dV kV doc pm an cdv ct), osl⟩) (hcd : codeIn K cdv qual = true) (hroom : A.depth < recursionLimit)
   (hbind : BindsTo s (fnOf name qual params body scope dV kV doc pm an cdv ct) args binds) (hloc : ∀ y ∈ binds, scope.names.lookup y.1 = some .local)
   (h : ∀ g L' h₁, Fr h₀ L g m → Fr g L' h₁ (fun y => binds.reverse.lookup y) → News g L' h₁ news → Below A base (env :: outer) g → K.In g → Top p loose mean mg mb g →
     wpC (model prog w) (A.deeper (envOf qual scope L' f cdv)) (execs body (envOf qual scope L' f cdv))
       (fun fl s' => LeaveK h₀ L m g R (match fl with | .ret v => v | _ => .none) s')
       (fun e s' => wpAny (model prog w) (A.deeper (envOf qual scope L' f cdv)) (leaving (envOf qual scope L' f cdv) e) (fun _ s'' => R (.error e) s'') (fun e' s'' => R (.error e') s'') s')
       { s with heap := h₁, toks := s.toks + binds.length })
   (hco : scope.isCoroutine = false) (hgen : scope.isGenerator = false) (hk : scope.kind = .function)
   (hcell : ∀ x ∈ scope.names, x.2 ≠ .cell) : codeC (model prog w) A (.call (.ref f) args) R s := by
 obtain ⟨FG, BG, st, lv⟩ := groundX (R := R) B F N hA hf hke
 refine codeC_call_def (fd := fnOf name qual params body scope dV kV doc pm an cdv ct) (body := body) (binds := binds) hroom ((X₀.keeps F.keep) _ _ ho) rfl (T.nolimit.keeps F.keep) (codeRec_of (X₀.keeps F.keep) hcd) rfl hbind hcell hloc (fun h₁ hns hk₁ => ?_) hco hgen hk
 exact wpC_mono (h _ s.heap.objs.size h₁ FG ⟨hns, fun b o e => hk₁ b o (of_hideAll _ e), Nat.le_of_eq (hideAll_size _ _)⟩
   (fun p hp => ⟨hk₁ _ _ (N p hp).1, Nat.ne_of_lt (Heap.lt_size (N p hp).1), hideAll_none _ (List.mem_map_of_mem hp)⟩) BG (X₀.keeps st) (T.keeps st)) (fun fl s' hl => lv _ _ hl) fun _ _ y => y
end
end
section
inductive HZSW : {α : Type} → Sem α → Prop
 | c0 (a1 a2 a3 a4 a5 a6 a7) : HZSW (execs (Stmt.For a1 a2 a3 a4 a5 :: a6) a7)
 | c1 (a1) : HZSW (pyIter a1)
 | c2 (a1 a2 a3 a4 a5 a6) : HZSW (subscriptTail a1 a2 (Value.bytes a3 a4) (Value.int a5 a6))
 | c3 (a1 a2 a3) : HZSW (setItem (Value.ref a1) a2 a3)
 | c4 (a1 a2) : HZSW (call (Value.type "bytes") a1 a2)
namespace ZSW
theorem hzt {α : Type} {M : Model} {A : Around} {t : Sem α} {Q : α → Shared → Prop} {E : Value → Shared → Prop} {s : Shared} (_ : HZSW t) (h : wpAny M A t Q E s) : wpAny M A t Q E s := h
end ZSW
open ZSW
noncomputable abbrev byO (d : Array UInt8) : Obj := { cls := .type "bytearray", data := .bytearray d }
noncomputable def Turned (b d : Array UInt8) (i j : Nat) : Prop := d.size = b.size ∧ ∀ q r : Nat, r < 3 → (q < i ∨ (q = i ∧ r < j)) → d.getD (3 * q + 2 - r) 0 = b.getD (3 * q + r) 0
theorem Turned.start {b d : Array UInt8} (h : d.size = b.size) : Turned b d 0 0 := ⟨h, fun q r _ h => h.elim (fun h => absurd h (Nat.not_lt_zero _)) fun h => absurd h.2 (Nat.not_lt_zero _)⟩
theorem inj3 {i q a b : Nat} (ha : a < 3) (hb : b < 3) (h : 3 * i + a = 3 * q + b) : i = q ∧ a = b := by
 have h1 : (3 * i + a) / 3 = (3 * q + b) / 3 := congrArg (· / 3) h
 have h2 : (3 * i + a) % 3 = (3 * q + b) % 3 := congrArg (· % 3) h
 rw [Nat.mul_add_div (by decide), Nat.mul_add_div (by decide), Nat.div_eq_of_lt ha, Nat.div_eq_of_lt hb] at h1
 rw [Nat.mul_add_mod, Nat.mul_add_mod, Nat.mod_eq_of_lt ha, Nat.mod_eq_of_lt hb] at h2
 exact ⟨h1, h2⟩
theorem tri_le {i n N : Nat} (hb : N = 3 * n) (hi : i < n) : 3 * i + 3 ≤ N := by rw [hb]; exact Nat.mul_le_mul_left 3 hi
theorem tri_max {n N : Nat} (hb : N = 3 * n) (hn : 0 < n ∧ n ≤ 27) : N ≤ 81 := by rw [hb]; exact Nat.mul_le_mul_left 3 hn.2
theorem Turned.next {b d : Array UInt8} {i j : Nat} (h : Turned b d i j) (hj : j < 3) (hi : 3 * i + 3 ≤ b.size) : Turned b (d.setIfInBounds (3 * i + 2 - j) (b.getD (3 * i + j) 0)) i (j + 1) := by
 refine ⟨by rw [Array.size_setIfInBounds]; exact h.1, fun q r hr hq => ?_⟩
 have hz := h.1
 by_cases e : q = i ∧ r = j
 · obtain ⟨rfl, rfl⟩ := e
   rw [Array.getD_eq_getD_getElem?, Array.getElem?_setIfInBounds_self_of_lt (by rw [hz]; exact Nat.lt_of_le_of_lt (Nat.sub_le _ _) hi)]
   rfl
 · have := h.2 q r hr (hq.imp id fun k => ⟨k.1, Nat.lt_of_le_of_ne (Nat.le_of_lt_succ k.2) fun z => e ⟨k.1, z⟩⟩)
   rw [← this]
   simp only [Array.getD_eq_getD_getElem?]
   have hj' := Nat.le_of_lt_succ hj
   have hr' := Nat.le_of_lt_succ hr
   rw [Array.getElem?_setIfInBounds_ne fun z => e (by
     have k := inj3 (i := i) (q := q) (Nat.lt_succ_of_le (Nat.sub_le 2 j)) (Nat.lt_succ_of_le (Nat.sub_le 2 r)) (by rw [← Nat.add_sub_assoc hj', ← Nat.add_sub_assoc hr']; exact z)
     exact ⟨k.1.symm, (Nat.sub_sub_self hr').symm.trans ((congrArg (2 - ·) k.2.symm).trans (Nat.sub_sub_self hj'))⟩)]
theorem Turned.row {b d : Array UInt8} {i : Nat} (h : Turned b d i 3) : Turned b d (i + 1) 0 := ⟨h.1, fun q r hr hq => h.2 q r hr (hq.elim (fun k => (Nat.lt_or_eq_of_le (Nat.le_of_lt_succ k)).imp id fun z => ⟨z, hr⟩) fun k => absurd k.2 (Nat.not_lt_zero _))⟩
theorem Turned.pts {b d : Array UInt8} {n : Nat} (h : Turned b d n 0) {i : Nat} (hi : i < n) : ptOf d i = (ptOf b i).reverse := by
 have h0 := h.2 i 0 (by decide) (.inl hi)
 have h1 := h.2 i 1 (by decide) (.inl hi)
 have h2 := h.2 i 2 (by decide) (.inl hi)
 unfold ptOf
 simp only [Nat.add_zero, Nat.sub_zero, Nat.add_sub_cancel, show 3 * i + 2 - 1 = 3 * i + 1 from rfl] at h0 h1 h2
 rw [h0, h1, h2]
 rfl
section
variable {prog : Program} {w : World} {A : Around} {h₀ : Heap} {L : Addr} {m : Str → Option Value} {news : List (Addr × Obj)} {s : Shared} {E : Value → Shared → Prop}
theorem call_bytearrayL {n : Nat} {t : Tok} (F : Fr h₀ L s.heap m) (N : News h₀ L s.heap news) (h0 : 0 < n) (hn : n ≤ 65536) {Q : Value → Shared → Prop}
   (h : ∀ D h', Fr h₀ L h' m → News h₀ L h' ((D, byO (Array.replicate n 0)) :: news) → (∀ p ∈ news, @LT.lt Nat _ p.1 D) → Q (.ref D) { s with heap := h' }) :
   wpC (model prog w) A (call (.type "bytearray") [.int n t]) Q E s := by
 refine call_bytearray h0 hn fun h' up hz hS => h _ h' (F.keeps up) (fun p hp => ?_) fun p hp => Heap.lt_size (N p hp).1
 rcases List.mem_cons.mp hp with rfl | hp
 · refine ⟨hS, Nat.ne_of_gt F.ns.lt, ?_⟩
   cases e : h₀.get? s.heap.objs.size with
   | none => rfl
   | some o => exact absurd (Heap.lt_size (F.keep _ _ e)) (Nat.lt_irrefl _)
 · exact ⟨up _ _ (N p hp).1, (N p hp).2⟩
theorem by_setL {D : Addr} {d : Array UInt8} {iz : Int} {k : Nat} {c : UInt8} {t u : Tok} {Q : Unit → Shared → Prop} (F : Fr h₀ L s.heap m) (N : News h₀ L s.heap news) (hm : (D, byO d) ∈ news) (e : iz = (k : Int)) (hz : d.size ≤ 65536) (hk : k < d.size)
   (h : ∀ h', Fr h₀ L h' m → News h₀ L h' (upd D (byO (d.setIfInBounds k c)) news) → Q () { s with heap := h' }) :
   wpAny (model prog w) A (setItem (.ref D) (.int iz t) (.int ((c.toNat : Nat) : Int) u)) Q E s := by
 subst e
 refine by_set (N _ hm).1 hz hk fun h' hs hS => h h' (F.update N hm hs) fun p hp => ?_
 rcases List.mem_cons.mp hp with rfl | hp
 · exact ⟨hS, (N _ hm).2⟩
 · obtain ⟨h1, h2⟩ := List.mem_filter.mp hp
   exact ⟨hs.extBut _ _ (of_decide_eq_true h2) (N p h1).1, (N p h1).2⟩
end
inductive SwA (b : Array UInt8) (tb tw : Tok) (D : Addr) (rest : List (Addr × Obj)) (i : Nat) (m : Str → Option Value) (data : List (Addr × Obj)) : Prop
 | mk (d : Array UInt8) (HT : Turned b d i 0) (hd : data = (D, byO d) :: rest) (e1 : m "data" = some (.bytes b tb)) (e2 : m "width" = some (.int 3 tw)) (e3 : m "swapped_data" = some (.ref D))
inductive SwB (b : Array UInt8) (tb tw : Tok) (D : Addr) (o₁ rest : List (Addr × Obj)) (i : Nat) (tv : Tok) (j : Nat) (m : Str → Option Value) (data : List (Addr × Obj)) : Prop
 | mk (d : Array UInt8) (HT : Turned b d i j) (hd : data = o₁ ++ (D, byO d) :: rest) (e1 : m "data" = some (.bytes b tb)) (e2 : m "width" = some (.int 3 tw)) (e3 : m "swapped_data" = some (.ref D)) (e4 : m "i" = some (.int ((0 : Int) + i * 3) tv))
section
variable {w : World} {A : Around} {h₀ : Heap} {L : Addr} {m : Str → Option Value} {rest : List (Addr × Obj)} {s : Shared} {E : Value → Shared → Prop} {Q : Value → Shared → Prop}
set_option maxHeartbeats 4000000 in
theorem swap_ok {b : Array UInt8} {tb tw : Tok} {n : Nat} (C : Cx w 310 A L h₀) (hh : A.handled = none) (F : Fr h₀ L s.heap m) (N : News h₀ L s.heap rest) (hb : b.size = 3 * n) (hn : 0 < n ∧ n ≤ 27)
   (h : ∀ h' tk t (c : Array UInt8), Fr h₀ L h' m → News h₀ L h' rest → c.size = b.size → (∀ i, i < n → ptOf c i = (ptOf b i).reverse) → Q (.bytes c t) { s with heap := h', toks := tk }) :
   wpC (model PySem.Challenge.rw_wy0029_01.row.prog w) A (call (.ref 86) [.bytes b tb, .int 3 tw]) Q E s := by
 ((rename Cx _ _ _ _ _ => c0); (obtain ⟨hd, hu, hA, hf, hk, B, X, CT1, CT2, T⟩ := c0); (refine lift_aroundC hd hu hA ?_); (refine wpC_noRaise ?_); (have q0 : (PySem.Challenge.rw_wy0029_01, fun P => (Mine.hd.heap_1 P).length) = (PySem.Challenge.rw_wy0029_01, fun P => (Mine.hd.heap_1 P).length) := by k_fill; rfl); clear q0)
 refine wpC_call ?_
 (refine' codeC_def ?k1 ?k2 ?k3 ?k4 ?k5 ?kA ?kF ?kK ?k6 ?k7 ?k8 ?k9 ?kB ?_ ?c2 ?c3 ?c4 ?c5; (case kA => exact rfl); (case kF => first | assumption | exact rfl); (case kK => first | assumption | exact rfl); (case k1 => k_asm); (case k2 => k_asm); (case k3 => k_asm); (case k4 => k_asm); (case k5 => k_asm); (case k6 => k_is); (case k7 => k_is); (case k8 => k_room); (case k9 => first | exact BindsTo.of_eq rfl | exact binds_K (by k_in) rfl (by k_is) rfl rfl rfl | (refine' kp_binds ?kx ?ke; (case kx => k_in); (case ke => exact fun _ => rfl))); (case c5 => decide); (case kB => exact locs rfl); (case c2 => exact rfl); (case c3 => exact rfl); (case c4 => exact rfl); k_whole; intro g' L' h' FG' F' N' B' X' T'; (have c1' := CodeHd.keeps (c := 125) (P := 123) (by assumption) (Fr.keep FG')); (have c2' := CodeHd.keeps (c := 108) (P := 104) (by assumption) (Fr.keep FG')); (try dsimp only); (try k_lift B'); (try k_fold))
 refine wpC_execs_cons ?_
 refine wpC_Assign_Name ?_
 refine wpC_Call_Name rfl ?_
 walk_at "zs"
 refine wpC_callWith_type rfl (wpC_evalArgs (wpC_spliced_cons (wpC_of ?_)))
 show wpAny _ _ (eval (Expr.Call _ _ _ _) _) _ _ _
 walk_at "zs"
 refine wpC_pure ?_
 dsimp only [List.nil_append]
 rename Fr _ _ _ _ => F1
 rename News _ _ _ _ => N1
 refine call_bytearrayL (n := b.size) F1 N1 (by rw [hb]; exact Nat.mul_pos (by decide) hn.1) (Nat.le_trans (tri_max hb hn) (by decide)) ?_
 intro D h2 F2 N2 hD
 refine wpC_of ?_
 walk_at "zs"
 refine wpC_of ?_
 (with_reducible refine wpAny_execs_cons (blind ?_)); intro _ _; refine wpAny_For ?_
 walk_at "zs"
 rename IsRange _ _ _ _ _ _ _ _ => hR
 rename Fr _ _ _ _ => F3
 rename News _ _ _ _ => N3
 refine zrange (n := n) hh F3 N3 hR ?_ ?_ ?_
 · rw [hb]; exact range3_small n hn.2
 · rw [hb]; exact range3_size n hn.2
 intro I o O h4 SR hO hoff hown F4 N4
 clear hR F3 N3
 have hDr : ∀ p ∈ rest, p.1 ≠ D := fun p hp => Nat.ne_of_lt (hD p hp)
 refine zforR (SR _ _) (fun i m data => SwA b tb tw D rest i m data) (fun _ _ _ _ _ hp => nomatch hp) F4 N4 hO hoff
   ⟨_, .start (by simp), rfl, by walk_at "zlook", by walk_at "zlook", by walk_at "zlook"⟩ ?_ ?_
 · clear F4 N4 hO hoff
   intro J' R' σ hJJ i tv o₁ m₁ data h₁ tk₁ hi HJ hO₁ ho₁ hn₁ F5 N5
   obtain ⟨d, HT, rfl, e1, e2, e3⟩ := HJ
   simp only [List.nil_append] at N5
   walk_at "zs"
   (with_reducible refine wpAny_execs_cons (blind ?_)); intro _ _; refine wpAny_For ?_
   walk_at "zs"
   rename IsRange _ _ _ _ _ _ _ _ => hR
   rename Fr _ _ _ _ => F6
   rename News _ _ _ _ => N6
   refine zrange (n := 3) hh F6 N6 hR (by decide) (by decide) ?_
   intro I2 o2 O2 h7 SR2 hO2 hoff2 hown2 F7 N7
   clear hR F6 N6
   refine zforR (SR2 _ _) (fun j m data => SwB b tb tw D o₁ rest i tv j m data) (fun _ _ _ _ _ hp => nomatch hp) F7 N7 hO2 hoff2
     ⟨d, HT, rfl, by walk_at "zlook", by walk_at "zlook", by walk_at "zlook", by walk_at "zlook"⟩ ?_ ?_
   · clear F7 N7 hO2 hoff2 HT e1 e2 e3
     intro J2 R2 σ2 hJJ2 j tv2 o₃ m₃ data3 h₃ tk₃ hj HJ hO₃ ho₃ hn₃ F8 N8
     obtain ⟨d, HT, rfl, e1, e2, e3, e4⟩ := HJ
     simp only [List.nil_append] at N8
     have hz := HT.1
     walk_at "zs"
     refine item_P (i := 3 * i + j) (by first | exact Nat.lt_of_lt_of_le (Nat.add_lt_add_left hj _) (tri_le hb hi) | exact Nat.le_trans (tri_max hb hn) (by decide) | omega) (by first | exact Nat.lt_of_lt_of_le (Nat.add_lt_add_left hj _) (tri_le hb hi) | exact Nat.le_trans (tri_max hb hn) (by decide) | omega) (by first | exact Nat.lt_of_lt_of_le (Nat.add_lt_add_left hj _) (tri_le hb hi) | exact Nat.le_trans (tri_max hb hn) (by decide) | omega) ?_
     intro t9 k9 _
     walk_at "zs"
     rename Fr _ _ _ _ => F9
     rename News _ _ _ _ => N9
     have mD : (D, byO d) ∈ o₃ ++ (o₁ ++ (D, byO d) :: rest) := List.mem_append_right _ (List.mem_append_right _ (.head _))
     refine by_setL (k := 3 * i + 2 - j) F9 N9 mD (by first | (rw [hz]; exact Nat.lt_of_le_of_lt (Nat.sub_le _ _) (tri_le hb hi)) | (rw [hz]; exact Nat.le_trans (tri_max hb hn) (by decide)) | (rw [zi, Int.zero_add, Int.add_sub_assoc, Int.ofNat_sub (Nat.le_trans (Nat.le_of_lt_succ hj) (Nat.le_add_left _ _)), Int.natCast_add, Int.natCast_mul, Int.mul_comm]; rfl) | omega) (by first | (rw [hz]; exact Nat.lt_of_le_of_lt (Nat.sub_le _ _) (tri_le hb hi)) | (rw [hz]; exact Nat.le_trans (tri_max hb hn) (by decide)) | (rw [zi, Int.zero_add, Int.add_sub_assoc, Int.ofNat_sub (Nat.le_trans (Nat.le_of_lt_succ hj) (Nat.le_add_left _ _)), Int.natCast_add, Int.natCast_mul, Int.mul_comm]; rfl) | omega) (by first | (rw [hz]; exact Nat.lt_of_le_of_lt (Nat.sub_le _ _) (tri_le hb hi)) | (rw [hz]; exact Nat.le_trans (tri_max hb hn) (by decide)) | (rw [zi, Int.zero_add, Int.add_sub_assoc, Int.ofNat_sub (Nat.le_trans (Nat.le_of_lt_succ hj) (Nat.le_add_left _ _)), Int.natCast_add, Int.natCast_mul, Int.mul_comm]; rfl) | omega) ?_
     intro h10 F10 N10
     walk_at "zs"
     (try dsimp only [ZTurn])
     refine ZNext.intro (news₂ := o₁ ++ (D, byO (d.setIfInBounds (3 * i + 2 - j) (b.getD (3 * i + j) 0))) :: rest) F10 (fun p hp => N10 p ?_) (fun p hp => ?_) (hJJ2 _ _ _ ⟨_, HT.next hj (tri_le hb hi), rfl, by walk_at "zlook", by walk_at "zlook", by walk_at "zlook", by walk_at "zlook"⟩)
     · rcases List.mem_append.mp hp with hp | hp
       · exact upd_keep (List.mem_append_left _ hp) fun q => hn₃ _ (List.mem_append_right _ (.head _)) (by rw [← q]; exact ho₃ p hp)
       · rcases List.mem_append.mp hp with hp | hp
         · exact upd_keep (List.mem_append_right _ (List.mem_append_left _ hp)) fun q => hn₁ _ (.head _) (by rw [← q]; exact ho₁ p hp)
         · rcases List.mem_cons.mp hp with rfl | hp
           · exact .head _
           · exact upd_keep (List.mem_append_right _ (List.mem_append_right _ (.tail _ hp))) (hDr p hp)
     · rcases List.mem_append.mp hp with hp | hp
       · exact hn₃ p (List.mem_append_left _ hp)
       · rcases List.mem_cons.mp hp with rfl | hp
         · exact fun q => hn₃ _ (List.mem_append_right _ (.head _)) q
         · exact hn₃ p (List.mem_append_right _ (.tail _ hp))
   · intro h' tk m' news' F8 N8 HJ
     obtain ⟨d, HT, rfl, e1, e2, e3, e4⟩ := HJ
     walk_at "zs"
     (try dsimp only [ZTurn])
     exact ZNext.intro (news₂ := (D, byO d) :: rest) F8 N8 (fun p hp => by
       rcases List.mem_cons.mp hp with rfl | hp
       · exact fun q => hn₁ _ (.head _) q
       · exact hn₁ p (.tail _ hp)) (hJJ _ _ _ ⟨d, HT.row, rfl, e1, e2, e3⟩)
 · intro h' tk m' news' F5 N5 HJ
   obtain ⟨d, HT, rfl, e1, e2, e3⟩ := HJ
   walk_at "zs"
   rename Fr _ _ _ _ => F6
   rename News _ _ _ _ => N6
   refine call_bytes_by (N6 _ (.head _)).1 (by rw [HT.1]; exact Nat.le_trans (tri_max hb hn) (by decide)) ?_
   intro t7 k7
   walk_at "zs"
   exact h _ _ _ d (by assumption) (fun p hp => by
     rename News _ _ _ _ => N8
     exact N8 p (.tail _ hp)) HT.1 fun i hi => HT.pts hi
end
end
section
noncomputable def kok {α : Type} (lt : Nat → Nat → Bool) (N : Nat) : KasT α → (α → Prop) → Prop
 | .ret a, P => P a
 | .ask i j k, P => i < N ∧ j < N ∧ kok lt N (k (lt i j)) P
theorem kok_bind {α β : Type} {lt : Nat → Nat → Bool} {N : Nat} {f : α → KasT β} {P : β → Prop} : ∀ (t : KasT α), kok lt N t (fun a => kok lt N (f a) P) → kok lt N (t.bind f) P
 | .ret _, h => h
 | .ask _ _ k, h => ⟨h.1, h.2.1, kok_bind (k _) h.2.2⟩
theorem kok_mono {α : Type} {lt : Nat → Nat → Bool} {N : Nat} {P P' : α → Prop} (hp : ∀ a, P a → P' a) : ∀ (t : KasT α), kok lt N t P → kok lt N t P'
 | .ret _, h => hp _ h
 | .ask _ _ k, h => ⟨h.1, h.2.1, kok_mono hp (k _) h.2.2⟩
theorem kok_wp {α : Type} {lt : Nat → Nat → Bool} {N : Nat} {cmp : Nat → Nat → (Bool → Shared → Prop) → Shared → Prop} {P : α → Prop} {Q : α → Shared → Prop} {s : Shared} (hc : ∀ i j (C : Bool → Shared → Prop), i < N → j < N → C (lt i j) s → cmp i j C s) (hq : ∀ a, P a → Q a s) :
   ∀ (t : KasT α), kok lt N t P → t.kasWp cmp Q s
 | .ret a, h => hq a h
 | .ask i j k, h => hc i j _ h.1 h.2.1 (kok_wp hc hq (k _) h.2.2)
section
variable (κ : Nat → Int)
noncomputable abbrev kat (p : Array Nat) (i : Nat) : Int := κ (p.getD i 0)
noncomputable def KRise (p : Array Nat) (n : Nat) : Prop := ∀ i j, i ≤ j → j < n → kat κ p i ≤ kat κ p j
noncomputable abbrev klt (i j : Nat) : Bool := decide (κ i < κ j)
variable {κ}
noncomputable def PermN (p : Array Nat) (N : Nat) : Prop := p.toList.Perm (List.range N)
theorem PermN.size {p : Array Nat} {N : Nat} (h : PermN p N) : p.size = N := by have := h.length_eq; simpa using this
theorem PermN.lt {p : Array Nat} {N : Nat} (h : PermN p N) (h0 : 0 < N) (i : Nat) : p.getD i 0 < N := by
 rw [Array.getD_eq_getD_getElem?]
 cases e : p[i]? with
 | none => exact h0
 | some x =>
   have hm : x ∈ p.toList := by
     obtain ⟨h1, h2⟩ := Array.getElem?_eq_some_iff.mp e
     rw [← h2]; simp
   exact List.mem_range.mp (h.mem_iff.mp hm)
theorem KRise.snoc {p : Array Nat} {n : Nat} (h : KRise κ p n) (hn : 1 ≤ n) (hl : kat κ p (n - 1) ≤ kat κ p n) : KRise κ p (n + 1) := fun i j hij hj => by
 rcases Nat.lt_or_ge j n with c | c
 · exact h i j hij c
 · obtain rfl : j = n := by exact Nat.eq_of_le_of_lt_succ c hj
   rcases Nat.lt_or_ge i j with c2 | c2
   · exact Int.le_trans (h i (j - 1) ((Nat.le_sub_one_iff_lt hn).mpr c2) (Nat.sub_one_lt_of_lt hn)) hl
   · obtain rfl : i = j := by exact Nat.le_antisymm hij c2
     exact Int.le_refl _
theorem asc_ok {N : Nat} {p : Array Nat} (hp : PermN p N) (h0 : 0 < N) : ∀ (f n : Nat), 1 ≤ n → n + f ≤ N → KRise κ p n → kok (klt κ) N (kas_asc p f n) fun m => n ≤ m ∧ m ≤ n + f ∧ KRise κ p m
 | 0, n, _, _, h => ⟨Nat.le_refl _, Nat.le_refl _, h⟩
 | f + 1, n, h1, h2, h => by
   refine ⟨hp.lt h0 _, hp.lt h0 _, ?_⟩
   by_cases c : κ (p.getD n 0) < κ (p.getD (n - 1) 0)
   · rw [klt, decide_eq_true c]; dsimp only; rw [if_pos rfl]
     exact ⟨Nat.le_refl _, by exact Nat.le_add_right n (f + 1), h⟩
   · rw [klt, decide_eq_false c]; dsimp only; rw [if_neg (by decide)]
     refine kok_mono (fun m hm => ?_) _ (asc_ok hp h0 f (n + 1) (Nat.le_add_right_of_le h1) (Nat.le_trans (Nat.le_of_eq (Nat.succ_add n f)) h2) (h.snoc h1 (Int.not_lt.mp c)))
     exact ⟨Nat.le_of_succ_le hm.1, Nat.le_trans hm.2.1 (Nat.le_of_eq (Nat.succ_add n f)), hm.2.2⟩
theorem place_ok {N : Nat} {p : Array Nat} (hp : PermN p N) (h0 : 0 < N) {k : Nat} (hs : KRise κ p k) : ∀ (f l r : Nat), l ≤ r → r ≤ k → r - l ≤ f → (∀ i, i < l → kat κ p i ≤ kat κ p k) → (∀ i, r ≤ i → i < k → kat κ p k < kat κ p i) →
   kok (klt κ) N (kas_place p k f l r) fun m => m ≤ k ∧ (∀ i, i < m → kat κ p i ≤ kat κ p k) ∧ ∀ i, m ≤ i → i < k → kat κ p k < kat κ p i
 | 0, l, r, hlr, hrk, hf, hl, hr => ⟨by exact Nat.le_trans hlr hrk, hl, fun i hi => hr i (Nat.le_trans (Nat.le_of_sub_eq_zero (Nat.le_zero.mp hf)) hi)⟩
 | f + 1, l, r, hlr, hrk, hf, hl, hr => by
   unfold kas_place
   by_cases c : l ≥ r
   · rw [if_pos c]
     exact ⟨by exact Nat.le_trans hlr hrk, hl, fun i hi => hr i (Nat.le_trans c hi)⟩
   · have c' := Nat.lt_of_not_le c
     rw [if_neg c]
     refine ⟨hp.lt h0 _, hp.lt h0 _, ?_⟩
     by_cases d : κ (p.getD k 0) < κ (p.getD ((l + r) / 2) 0)
     · rw [klt, decide_eq_true d]; dsimp only; rw [if_pos rfl]
       refine place_ok hp h0 hs f l ((l + r) / 2) (mid c').1 (Nat.le_trans (Nat.le_of_lt (mid c').2) hrk) (midL c' hf) hl fun i hi hk => ?_
       exact Int.lt_of_lt_of_le d (hs _ _ hi hk)
     · rw [klt, decide_eq_false d]; dsimp only; rw [if_neg (by decide)]
       refine place_ok hp h0 hs f ((l + r) / 2 + 1) r (mid c').2 hrk (midR c' hf) (fun i hi => ?_) hr
       exact Int.le_trans (hs i ((l + r) / 2) (Nat.le_of_lt_succ hi) (Nat.lt_of_lt_of_le (mid c').2 hrk)) (Int.not_lt.mp d)
theorem getD_bubble {p : Array Nat} {k l : Nat} (hk : k < p.size) (hl : l ≤ k) (i : Nat) : (bubble p k (k - l)).getD i 0 = if i = l then p.getD k 0 else if l < i ∧ i ≤ k then p.getD (i - 1) 0 else p.getD i 0 := by
 simp only [Array.getD_eq_getD_getElem?]
 rw [getElem?_bubble hk (k - l) (Nat.sub_le k l), show k - (k - l) = l from by exact Nat.sub_sub_self hl]
 split
 · rfl
 · split <;> rfl
theorem pl {l j k : Nat} (h : l < j) (hj : j < k + 1) : l ≤ j - 1 ∧ j - 1 < k := ⟨Nat.le_sub_one_of_lt h, Nat.lt_of_lt_of_le (Nat.sub_one_lt (Nat.ne_of_gt (Nat.zero_lt_of_lt h))) (Nat.le_of_lt_succ hj)⟩
theorem bin_ok {N : Nat} (h0 : 0 < N) : ∀ (f k : Nat) (p : Array Nat), PermN p N → k + f ≤ N → KRise κ p k → kok (klt κ) N (kas_bin f p k) fun q => PermN q N ∧ KRise κ q (k + f)
 | 0, _, _, hp, _, h => ⟨hp, h⟩
 | f + 1, k, p, hp, hk, h => by
   unfold kas_bin
   refine kok_bind _ (kok_mono (fun l hl => ?_) _ (place_ok hp h0 h k 0 k (Nat.zero_le _) (Nat.le_refl _) (Nat.sub_le k 0) (fun i hi => absurd hi (Nat.not_lt_zero _)) fun i h1 h2 => absurd h2 (Nat.not_lt.mpr h1)))
   obtain ⟨hl1, hl2, hl3⟩ := hl
   have hks : k < p.size := by rw [hp.size]; exact Nat.lt_of_add_right_lt hk
   have hp' : PermN (bubble p k (k - l)) N := (Array.perm_iff_toList_perm.mp (bubble_perm p k (k - l))).trans hp
   refine kok_mono (fun q hq => ⟨hq.1, by rw [show k + (f + 1) = k + 1 + f from by exact Eq.symm (Nat.succ_add_eq_add_succ k f)]; exact hq.2⟩) _ (bin_ok h0 f (k + 1) _ hp' (Nat.le_trans (Nat.le_of_eq (Nat.succ_add k f)) hk) fun i j hij hj => ?_)
   show κ _ ≤ κ _
   rw [getD_bubble hks hl1, getD_bubble hks hl1]
   by_cases e1 : i = l
   · rw [if_pos e1]
     by_cases e2 : j = l
     · rw [if_pos e2]; exact Int.le_refl _
     · have g := Nat.lt_of_le_of_ne (e1 ▸ hij) (Ne.symm e2)
       rw [if_neg e2, if_pos ⟨g, Nat.le_of_lt_succ hj⟩]
       exact Int.le_of_lt (hl3 (j - 1) (pl g hj).1 (pl g hj).2)
   · rw [if_neg e1]
     by_cases e2 : j = l
     · rw [if_pos e2, if_neg fun q => Nat.lt_irrefl _ (Nat.lt_of_lt_of_le q.1 (e2 ▸ hij))]
       exact hl2 i (Nat.lt_of_le_of_ne (e2 ▸ hij) e1)
     · rw [if_neg e2]
       by_cases c1 : l < i ∧ i ≤ k
       · have g := Nat.lt_of_lt_of_le c1.1 hij
         rw [if_pos c1, if_pos ⟨g, Nat.le_of_lt_succ hj⟩]
         exact h _ _ (Nat.sub_le_sub_right hij 1) (pl g hj).2
       · rw [if_neg c1]
         by_cases c2 : l < j ∧ j ≤ k
         · rw [if_pos c2]
           exact h _ _ (Nat.le_sub_one_of_lt (Nat.lt_of_le_of_lt (Nat.le_of_not_lt fun q => c1 ⟨q, Nat.le_trans hij c2.2⟩) c2.1)) (pl c2.1 hj).2
         · rw [if_neg c2]
           exact h _ _ hij (Nat.lt_of_lt_of_le (Nat.lt_of_le_of_ne (Nat.le_of_not_lt fun q => c2 ⟨q, Nat.le_of_lt_succ hj⟩) e2) hl1)
theorem sort_ok {N : Nat} (h2 : 2 ≤ N) (hm : ∀ i, 0 < i → i < N → κ 0 < κ i) : kok (klt κ) N (kas_sort N) fun q => PermN q N ∧ KRise κ q N := by
 have hp : PermN (List.toArray (List.range N)) N := List.Perm.refl _
 have h0 : 0 < N := by exact Nat.zero_lt_of_lt h2
 have gd : ∀ i, i < N → (List.toArray (List.range N)).getD i 0 = i := fun i hi => by simp [Array.getD_eq_getD_getElem?, hi]
 unfold kas_sort
 refine kok_bind _ ?_
 unfold kas_count
 refine kok_bind _ ?_
 have base : KRise κ (List.toArray (List.range N)) 1 := fun i j hij hj => by
   obtain rfl : i = j := Nat.le_antisymm hij (Nat.le_trans (Nat.le_of_lt_succ hj) (Nat.zero_le _))
   exact Int.le_refl _
 have asc := asc_ok (κ := κ) hp h0 (N - 1 - 1) 2 (by decide) (Nat.le_of_eq (Nat.add_sub_cancel' h2)) (base.snoc (Nat.le_refl _) (by
   show κ _ ≤ κ _
   rw [gd 1 h2, gd (1 - 1) (show 1 - 1 < N from h0)]
   exact Int.le_of_lt (hm 1 (by decide) (Nat.lt_of_succ_le h2))))
 have e1 : kas_asc (List.toArray (List.range N)) (N - 1) 1 = .ask ((List.toArray (List.range N)).getD 1 0) ((List.toArray (List.range N)).getD (1 - 1) 0) fun c => if c = true then .ret 1 else kas_asc (List.toArray (List.range N)) (N - 1 - 1) (1 + 1) := by
   obtain ⟨M, rfl⟩ : ∃ M, N = M + 2 := ⟨N - 2, by exact (Nat.sub_eq_iff_eq_add h2).mp rfl⟩
   rfl
 rw [e1]
 refine ⟨hp.lt h0 _, hp.lt h0 _, ?_⟩
 rw [show klt κ ((List.toArray (List.range N)).getD 1 0) ((List.toArray (List.range N)).getD (1 - 1) 0) = false from decide_eq_false (by
   rw [gd 1 h2, gd (1 - 1) (show 1 - 1 < N from h0)]
   exact Int.not_lt.mpr (Int.le_of_lt (hm 1 (by decide) (Nat.lt_of_succ_le h2))))]
 dsimp only
 rw [if_neg (by decide)]
 refine kok_mono (fun m hm' => ?_) _ asc
 obtain ⟨m1, m2, m3⟩ := hm'
 by_cases c : m = N
 · subst c
   rw [if_pos (by simp)]
   show kok _ _ (if m < m then _ else _) _
   rw [if_neg (Nat.lt_irrefl _)]
   exact ⟨hp, m3⟩
 · have hmN := Nat.lt_of_le_of_ne (Nat.le_trans m2 (Nat.le_of_eq (Nat.add_sub_cancel' h2))) c
   rw [if_neg (by simpa using c), if_pos (Nat.lt_of_succ_le m1)]
   refine ⟨hp.lt h0 _, hp.lt h0 _, ?_⟩
   rw [show klt κ ((List.toArray (List.range N)).getD 0 0) ((List.toArray (List.range N)).getD (m - 1) 0) = true from decide_eq_true (by
     rw [gd 0 (Nat.zero_lt_of_lt h2), gd (m - 1) (Nat.lt_of_le_of_lt (Nat.sub_le _ _) hmN)]
     exact hm _ (Nat.zero_lt_sub_of_lt m1) (Nat.lt_of_le_of_lt (Nat.sub_le _ _) hmN))]
   dsimp only
   rw [if_pos rfl]
   show kok _ _ (if m < N then _ else _) _
   rw [if_pos hmN, Nat.max_eq_left (Nat.le_of_succ_le m1)]
   have := bin_ok (κ := κ) h0 (N - m) m _ hp (Nat.le_of_eq (Nat.add_sub_cancel' (Nat.le_of_lt hmN))) m3
   rw [Nat.add_sub_cancel' (Nat.le_of_lt hmN)] at this
   exact this
end
end
section
noncomputable abbrev IT := Int × Int × Int
noncomputable abbrev toI (t : Mon) : IT := ((t.1 : Int), (t.2.1 : Int), (t.2.2 : Int))
noncomputable def TupAt (Z : List (Addr × Obj)) (T : Addr) (t : IT) : Prop := ∃ a b c z, (T, tupO #[Value.int t.1 a, Value.int t.2.1 b, Value.int t.2.2 c] z) ∈ Z
theorem TupAt.more {Z Z' : List (Addr × Obj)} {T : Addr} {t : IT} (h : TupAt Z T t) (hs : ∀ q ∈ Z, q ∈ Z') : TupAt Z' T t := x4a1 h fun a b c z h => ⟨a, b, c, z, hs _ h⟩
theorem TakenIs.get {Z : List (Addr × Obj)} {ts : List Mon} {vs : List Value} (h : TakenIs Z ts vs) {i : Nat} {v : Value} (hv : vs[i]? = some v) : ∃ t T, ts[i]? = some t ∧ v = .ref T ∧ TupAt Z T (toI t) := by
 obtain ⟨h1, _⟩ := List.getElem?_eq_some_iff.mp hv
 have h2 : i < ts.length := by rw [← h.1]; exact h1
 refine x5a2 (h.2 i ts[i] (List.getElem?_eq_getElem h2)) ?_; rintro T a b c z k1 k2
 rw [hv] at k1
 exact ⟨ts[i], T, List.getElem?_eq_getElem h2, Option.some.inj k1, a, b, c, z, k2⟩
section
variable {h₀ : Heap} {L : Addr} {led : List (Addr × Obj)} {s : Shared} {A : Around}
theorem eqAt_tup (N : News h₀ L s.heap led) {T T' : Addr} {t t' : IT} (h : TupAt led T t) (h' : TupAt led T' t') (hu : A.units < cLine) : SeqAt.EqAt A s (.ref T) (.ref T') (decide (t = t')) := by
 refine x4a1 h ?_; clear h; rintro a b c z k
 refine x4a1 h' ?_; clear h'; rintro a' b' c' z' k'
 by_cases e : T = T'
 · subst e
   have q := (N _ k).1
   rw [(N _ k').1] at q
   have := congrArg Obj.data (Option.some.inj q)
   injection this with q1 _
   have q2 := congrArg Array.toList q1
   simp only [List.cons.injEq, Value.int.injEq] at q2
   refine x0a4 q2 ?_; clear q2; rintro ⟨e1, _⟩ ⟨e2, _⟩ ⟨e3, _⟩ _
   rw [decide_eq_true (Prod.ext e1.symm (Prod.ext e2.symm e3.symm) : t = t')]
   exact .same _
 · refine .of_refs e ?_
   have := SeqAt.RcAt.tuples (A := A) (s := s) (e := fun j => match j with | 0 => t.1 == t'.1 | 1 => t.2.1 == t'.2.1 | _ => t.2.2 == t'.2.2) ⟨_, (N _ k).1, rfl, _, rfl⟩ ⟨_, (N _ k').1, rfl, _, rfl⟩ hu fun j h1 h2 => ?_
   · have e2 : ((List.range (min (#[Value.int t.1 a, Value.int t.2.1 b, Value.int t.2.2 c] : Array Value).size (#[Value.int t'.1 a', Value.int t'.2.1 b', Value.int t'.2.2 c'] : Array Value).size)).all (fun j => match j with | 0 => t.1 == t'.1 | 1 => t.2.1 == t'.2.1 | _ => t.2.2 == t'.2.2) &&
         (#[Value.int t.1 a, Value.int t.2.1 b, Value.int t.2.2 c] : Array Value).size == (#[Value.int t'.1 a', Value.int t'.2.1 b', Value.int t'.2.2 c'] : Array Value).size) = decide (t = t') := by
       obtain ⟨x, y, u⟩ := t
       obtain ⟨x', y', u'⟩ := t'
       show ((List.range 3).all _ && true) = _
       rw [Bool.and_true, show List.range 3 = [0, 1, 2] from rfl]
       simp only [List.all_cons, List.all_nil, Bool.and_true]
       rw [Bool.eq_iff_iff]
       simp [Prod.ext_iff]
     rw [e2] at this
     exact this
   · have h1' : j < 3 := h1
     rcases two (Nat.le_of_lt_succ h1') with rfl | rfl | rfl
     · exact (MeetsSeq.EqGives.int _ _ _ _).at _ _
     · exact (MeetsSeq.EqGives.int _ _ _ _).at _ _
     · exact (MeetsSeq.EqGives.int _ _ _ _).at _ _
noncomputable def isTup (led : List (Addr × Obj)) (t : IT) : Value → Prop := fun v => ∃ T, v = .ref T ∧ TupAt led T t
theorem tups_fun (N : News h₀ L s.heap led) {T : Addr} {t t' : IT} (h : TupAt led T t) (h' : TupAt led T t') : t = t' := by
 refine x4a1 h ?_; clear h; rintro a b c z k
 refine x4a1 h' ?_; clear h'; rintro a' b' c' z' k'
 have q := (N _ k).1
 rw [(N _ k').1] at q
 have := congrArg Obj.data (Option.some.inj q)
 injection this with q1 _
 have q2 := congrArg Array.toList q1
 simp only [List.cons.injEq, Value.int.injEq] at q2
 refine x0a4 q2 ?_; clear q2; rintro ⟨e1, _⟩ ⟨e2, _⟩ ⟨e3, _⟩ _
 exact Prod.ext e1.symm (Prod.ext e2.symm e3.symm)
open Classical in
theorem any_tup {vs : List Value} {ts : List Mon} {t : IT} (N : News h₀ L s.heap led) (h : TakenIs led ts vs) : (vs.toArray.any fun v => decide (isTup led t v)) = decide (t ∈ ts.map toI) := by
 rw [Bool.eq_iff_iff, List.any_toArray, List.any_eq_true, decide_eq_true_iff]
 constructor
 · rintro ⟨v, hv, q⟩
   obtain ⟨T, rfl, hT⟩ := of_decide_eq_true q
   obtain ⟨i, hi⟩ := List.getElem?_of_mem hv
   refine x2a3 (h.get hi) ?_; rintro t' T' k1 k2 k3
   cases k2
   rw [tups_fun N hT k3]
   exact List.mem_map.mpr ⟨t', List.mem_of_getElem? k1, rfl⟩
 · intro hm
   obtain ⟨t', hm', rfl⟩ := List.mem_map.mp hm
   obtain ⟨i, hi⟩ := List.getElem?_of_mem hm'
   refine x5a2 (h.2 i t' hi) ?_; rintro T a b c z k1 k2
   exact ⟨_, List.mem_of_getElem? k1, decide_eq_true ⟨T, rfl, a, b, c, z, k2⟩⟩
open Classical in
theorem eqAt_isTup (N : News h₀ L s.heap led) {vs : List Value} {ts : List Mon} (h : TakenIs led ts vs) {T : Addr} {t : IT} (hT : TupAt led T t) (hu : A.units < cLine) : ∀ y, y ∈ vs.toArray → SeqAt.EqAt A s y (.ref T) (decide (isTup led t y)) := fun y hy => by
 obtain ⟨i, hi⟩ := List.getElem?_of_mem (by simpa using hy : y ∈ vs)
 refine x2a3 (h.get hi) ?_; rintro t' T' k1 rfl k3
 have e : decide (isTup led t (.ref T')) = decide (toI t' = t) := by
   refine decide_eq_decide.mpr ⟨fun ⟨T2, e, h2⟩ => ?_, fun e => ⟨T', rfl, e ▸ k3⟩⟩
   cases e
   exact tups_fun N k3 h2
 rw [e]
 exact eqAt_tup N k3 hT hu
end
section
variable {prog : Program} {w : World} {A : Around} {h₀ : Heap} {L : Addr} {led : List (Addr × Obj)} {s : Shared} {E : Value → Shared → Prop} {Q : Value → Shared → Prop}
open Classical in
theorem in_taken (N : News h₀ L s.heap led) {l : Addr} {n : Nat} {vs : List Value} {ts : List Mon} (hm : (l, listOf vs.toArray n) ∈ led) (h : TakenIs led ts vs) {T : Addr} {t : IT} (hT : TupAt led T t) (hu : A.in1.units < cLine)
   (hq : Q (.bool (decide (t ∈ ts.map toI))) s) : wpAny (model prog w) A (compareOp .In (.ref T) (.ref l)) Q E s :=
 SeqAt.in_listAt (fun v => decide (isTup led t v)) (News.isList N hm) (eqAt_isTup N h hT hu) (by rw [any_tup N h]; exact hq)
open Classical in
theorem notIn_taken (N : News h₀ L s.heap led) {l : Addr} {n : Nat} {vs : List Value} {ts : List Mon} (hm : (l, listOf vs.toArray n) ∈ led) (h : TakenIs led ts vs) {T : Addr} {t : IT} (hT : TupAt led T t) (hu : A.in1.units < cLine)
   (h1 : t ∈ ts.map toI → Q (.bool false) s) (h2 : t ∉ ts.map toI → Q (.bool true) s) : wpAny (model prog w) A (compareOp .NotIn (.ref T) (.ref l)) Q E s := by
 refine SeqAt.notIn_listAt (fun v => decide (isTup led t v)) (News.isList N hm) (eqAt_isTup N h hT hu) ?_
 rw [any_tup N h]
 by_cases c : t ∈ ts.map toI
 · rw [decide_eq_true c]; exact h1 c
 · rw [decide_eq_false c]; exact h2 c
end
theorem TakenIs.append {Z : List (Addr × Obj)} {ts ts' : List Mon} {vs vs' : List Value} (h : TakenIs Z ts vs) (h' : TakenIs Z ts' vs') : TakenIs Z (ts ++ ts') (vs ++ vs') := by
 refine ⟨by simp [h.1, h'.1], fun i t ht => ?_⟩
 rcases Nat.lt_or_ge i ts.length with c | c
 · rw [List.getElem?_append_left c] at ht
   rw [List.getElem?_append_left (by rw [h.1]; exact c)]
   exact h.2 i t ht
 · rw [List.getElem?_append_right c] at ht
   rw [List.getElem?_append_right (by rw [h.1]; exact c), h.1]
   exact h'.2 _ t ht
theorem TakenIs.off {h₀ h : Heap} {L b : Addr} {Z P : List (Addr × Obj)} {ts : List Mon} {vs : List Value} {xs : Array Value} {n : Nat} (N : News h₀ L h Z) (hs : ∀ q ∈ P, q ∈ Z) (hb : (b, listOf xs n) ∈ Z) (hT : TakenIs P ts vs) : TakenIs (P.filter fun q => decide (q.1 ≠ b)) ts vs := by
 refine ⟨hT.1, fun i t ht => ?_⟩
 refine x5a2 (hT.2 i t ht) ?_; rintro T x y u z k1 k2
 refine ⟨T, x, y, u, z, k1, List.mem_filter.mpr ⟨k2, decide_eq_true fun e => ?_⟩⟩
 have g1 := (N _ (hs _ k2)).1
 have g2 := (N _ hb).1
 rw [show T = b from e, g2] at g1
 exact absurd (show Value.type "list" = Value.type "tuple" from congrArg Obj.cls (Option.some.inj g1)) (by decide)
theorem mem_toI {t : Mon} {ts : List Mon} : toI t ∈ ts.map toI ↔ t ∈ ts := by
 constructor
 · intro h
   obtain ⟨t', h1, h2⟩ := List.mem_map.mp h
   have e : t' = t := by
     obtain ⟨x, y, z⟩ := t
     obtain ⟨x', y', z'⟩ := t'
     simp only [toI, Prod.mk.injEq, Int.ofNat_inj] at h2
     obtain ⟨rfl, rfl, rfl⟩ := h2
     rfl
   exact e ▸ h1
 · exact fun h => List.mem_map.mpr ⟨t, h, rfl⟩
noncomputable abbrev codeM (t : Mon) : Int := 16 * (t.1 : Int) + 4 * (t.2.1 : Int) + (t.2.2 : Int)
noncomputable def Le3 (t : Mon) : Prop := t.1 ≤ 3 ∧ t.2.1 ≤ 3 ∧ t.2.2 ≤ 3
theorem katTups_of {h : Heap} : ∀ {vs : List Value}, (∀ v ∈ vs, ∃ a o xs n x t, v = .ref a ∧ h.get? a = some o ∧ o.cls = .type "tuple" ∧ o.data = .seq xs n ∧ xs[0]? = some (.int x t)) → ∃ fs, KatTups h vs fs ∧ fs.length = vs.length ∧ ∀ f ∈ fs, ∃ x t, f = .int x t
 | [], _ => ⟨[], .nil, rfl, fun _ h => nomatch h⟩
 | v :: vs, hv => by
   refine x6a5 (hv v (.head _)) ?_; rintro a o xs n x t rfl k1 k2 k3 k4
   refine x1a3 (katTups_of (vs := vs) fun v hm => hv v (.tail _ hm)) ?_; rintro fs q1 q2 q3
   refine ⟨.int x t :: fs, .cons k1 k2 k3 k4 q1, by simp [q2], fun f hf => ?_⟩
   rcases List.mem_cons.mp hf with rfl | hf
   · exact ⟨x, t, rfl⟩
   · exact q3 f hf
section
variable {prog : Program} {w : World} {A : Around} {h₀ : Heap} {L : Addr} {m : Str → Option Value} {led : List (Addr × Obj)} {s : Shared} {E : Value → Shared → Prop}
theorem lt_tup (N : News h₀ L s.heap led) {T T' : Addr} {t t' : Mon} (h : TupAt led T (toI t)) (h' : TupAt led T' (toI t')) (l1 : Le3 t) (l2 : Le3 t') {b : Bool} {C : Bool → Shared → Prop} (hc : C (decide (codeM t < codeM t')) s) :
   wpAny (model prog w) A (keyLt' (tuples' b) (.ref T) (.ref T')) C E s := by
 refine x4a1 h ?_; clear h; rintro a b' c z k
 refine x4a1 h' ?_; clear h'; rintro a' b'' c' z' k'
 obtain ⟨x, y, u⟩ := t
 obtain ⟨x', y', u'⟩ := t'
 obtain ⟨l11, l12, l13⟩ := l1
 obtain ⟨l21, l22, l23⟩ := l2
 dsimp only at l11 l12 l13 l21 l22 l23
 have one : ∀ {b : Bool} {p q : Int} {tp tq : Tok}, decide (p < q) = decide (codeM (x, y, u) < codeM (x', y', u')) → wpAny (model prog w) A (oneLt' b (.int p tp) (.int q tq)) C (fun _ _ => False) s := fun {b p q tp tq} e => by
   cases b with
   | true => exact oneLt_int (by rw [e]; exact hc)
   | false => exact kat_one _ _ (lt_int (by rw [e]; exact hc))
 refine kat_lt (N _ k).1 rfl (N _ k').1 rfl ?_
 show KatLex prog w A b _ C [(Value.int x a, Value.int x' a'), (Value.int y b', Value.int y' b''), (Value.int u c, Value.int u' c')] 0 s
 refine kat_cons (wpAny_eqBool_int ?_)
 refine kat_go (fun e => ?_) fun e => ?_
 · obtain rfl : x = x' := Int.ofNat_inj.mp (eq_of_beq e)
   refine kat_yes (kat_cons (wpAny_eqBool_int (kat_go (fun e2 => ?_) fun e2 => ?_)))
   · obtain rfl : y = y' := Int.ofNat_inj.mp (eq_of_beq e2)
     refine kat_yes (kat_cons (wpAny_eqBool_int (kat_go (fun e3 => ?_) fun e3 => ?_)))
     · obtain rfl : u = u' := Int.ofNat_inj.mp (eq_of_beq e3)
       refine kat_yes (kat_nil ?_)
       have : (decide (3 < 3)) = decide (codeM (x, y, u) < codeM (x, y, u)) := decide_eq_decide.mpr ⟨fun h => absurd h (Nat.lt_irrefl _), fun h => absurd h (Int.lt_irrefl _)⟩
       exact this ▸ hc
     · refine kat_no (one (decide_eq_decide.mpr ?_))
       exact (Int.add_lt_add_iff_left _).symm
   · refine kat_no (one (decide_eq_decide.mpr ?_))
     have e2 : (y : Int) ≠ y' := by simpa using e2
     dsimp only [codeM]
     omega
 · refine kat_no (one (decide_eq_decide.mpr ?_))
   have e : (x : Int) ≠ x' := by simpa using e
   dsimp only [codeM]
   omega
theorem sorted_tups {l : Addr} {n : Nat} {ts : List Mon} {vs : List Value} {Q : Value → Shared → Prop} (F : Fr h₀ L s.heap m) (N : News h₀ L s.heap led) (hm : (l, listOf vs.toArray n) ∈ led) {P : List (Addr × Obj)} (hP : ∀ q ∈ P, q ∈ led) (hT : TakenIs P ts vs) (h2 : 2 ≤ ts.length) (h64 : ts.length < 64)
   (hb : ∀ t ∈ ts, Le3 t) (hmin : ∀ i t0 t, ts[0]? = some t0 → 0 < i → ts[i]? = some t → codeM t0 < codeM t)
   (h : ∀ D h' n' us rs, Fr h₀ L h' m → News h₀ L h' ((D, listOf rs.toArray n') :: led) → (∀ q ∈ led, @LT.lt Nat _ q.1 D) → TakenIs P us rs → us.Perm ts → us.Pairwise (fun a b => codeM a ≤ codeM b) → Q (.ref D) { s with heap := h' }) :
   wpAny (model prog w) A (call (.builtin "sorted") [.ref l]) Q E s := by
 have hl := hT.1
 refine kat_sorted F N (News.isList N hm) (le_of_le_of_eq h2 (id (Eq.symm hl))) (lt_of_eq_of_lt hl h64) ?_
 intro D e1 h' F' N' hD
 have Nl : News h₀ L h' led := fun p hp => N' p (.tail _ hp)
 have tup : ∀ v ∈ vs, ∃ t T, t ∈ ts ∧ v = .ref T ∧ TupAt P T (toI t) := fun v hv => by
   obtain ⟨i, hi⟩ := List.getElem?_of_mem hv
   refine x2a3 (hT.get hi) ?_; rintro t T k1 k2 k3
   exact ⟨t, T, List.mem_of_getElem? k1, k2, k3⟩
 obtain ⟨fs, q1, q2, q3⟩ := katTups_of (h := h') (vs := vs) fun v hv => by
   obtain ⟨t, T, _, rfl, a, b, c, z, k⟩ := tup v hv
   exact ⟨T, _, _, _, _, _, rfl, (Nl _ (hP _ k)).1, rfl, rfl, rfl⟩
 refine kat_kind (T := .type "int") (s := { s with heap := h' }) q1 (by omega) (fun v hv => ?_) (by decide) ?_
 · obtain ⟨x, t, rfl⟩ := q3 v hv
   exact Looks.of_pure rfl
 have gt : ∀ i, i < ts.length → ∃ T, vs.getD i Value.none = .ref T ∧ TupAt P T (toI (ts.getD i (0, 0, 0))) := fun i hi => by
   refine x5a2 (hT.2 i ts[i] (List.getElem?_eq_getElem hi)) ?_; rintro T a b c z k1 k2
   refine ⟨T, by rw [List.getD_eq_getElem?_getD, k1]; rfl, ?_⟩
   rw [List.getD_eq_getElem?_getD, List.getElem?_eq_getElem hi]
   exact ⟨a, b, c, z, k2⟩
 have gl : ∀ i, i < ts.length → Le3 (ts.getD i (0, 0, 0)) := fun i hi => by
   rw [List.getD_eq_getElem?_getD, List.getElem?_eq_getElem hi]
   exact hb _ (List.getElem_mem hi)
 refine kok_wp (lt := klt fun i => codeM (ts.getD i (0, 0, 0))) (N := ts.length) (P := fun q => PermN q ts.length ∧ KRise (fun i => codeM (ts.getD i (0, 0, 0))) q ts.length) (fun i j C hi hj hC => ?_) (fun q hq => ?_) _ ?_
 · obtain ⟨T1, e1, k1⟩ := gt i hi
   obtain ⟨T2, e2, k2⟩ := gt j hj
   show wpAny _ _ (keyLt' _ (vs.getD i Value.none) (vs.getD j Value.none)) C _ _
   rw [e1, e2]
   exact lt_tup (s := { s with heap := h' }) Nl (k1.more hP) (k2.more hP) (gl i hi) (gl j hj) hC
 · refine KasFin.intro F' N' (.head fun p hp => Nat.ne_of_lt (hD p hp)) fun h2 c F2 N2 => ?_
   obtain ⟨hp, hr⟩ := hq
   refine h D h2 c (q.toList.map fun i => ts.getD i (0, 0, 0)) (q.toList.map fun i => vs.getD i Value.none) F2 N2 hD ⟨by simp, fun i t ht => ?_⟩ ?_ ?_
   · rw [List.getElem?_map] at ht
     obtain ⟨k, hk, rfl⟩ := Option.map_eq_some_iff.mp ht
     have hk' : k < ts.length := List.mem_range.mp (hp.mem_iff.mp (List.mem_of_getElem? hk))
     obtain ⟨T, e, a, b, c, z, k2⟩ := gt k hk'
     exact ⟨T, a, b, c, z, by rw [List.getElem?_map, hk, Option.map_some, e], k2⟩
   · have e : ts = (List.range ts.length).map fun i => ts.getD i (0, 0, 0) := by
       refine List.ext_getElem (by simp) fun i h1 h2 => ?_
       simp [h1]
     have := hp.map fun i => ts.getD i (0, 0, 0)
     rw [← e] at this
     exact this
   · rw [List.pairwise_map, List.pairwise_iff_getElem]
     intro i j hi hj hij
     have hz := hp.size
     have := hr i j (Nat.le_of_lt hij) (by rw [← hz]; simpa using hj)
     simp only [kat] at this
     have gi : ∀ x (hx : x < q.toList.length), q.getD x 0 = q.toList[x] := fun x hx => by
       have hx' : x < q.size := by simpa using hx
       simp [Array.getD_eq_getD_getElem?, hx']
     rw [gi i hi, gi j hj] at this
     exact this
 · rw [hl]
   refine sort_ok h2 fun i h0 hi => ?_
   have e0 : ts[0]? = some (ts.getD 0 (0, 0, 0)) := by rw [List.getD_eq_getElem?_getD, List.getElem?_eq_getElem (Nat.zero_lt_of_lt h2)]; rfl
   have ei : ts[i]? = some (ts.getD i (0, 0, 0)) := by rw [List.getD_eq_getElem?_getD, List.getElem?_eq_getElem (Nat.lt_of_succ_le hi)]; rfl
   exact hmin i _ _ e0 h0 ei
end
end
section
structure Hold (cl : List (Str × Addr)) (led P : List (Addr × Obj)) (cv : Str → Option Value) : Prop where
 sub : ∀ q ∈ P, q ∈ led
 off : ∀ q ∈ P, ∀ x c, cl.lookup x = some c → q.1 ≠ c
 cell : ∀ x c, cl.lookup x = some c → ∃ o, (c, o) ∈ led ∧ o.data = .cell (cv x)
noncomputable def CellInj (cl : List (Str × Addr)) : Prop := ∀ x y c, cl.lookup x = some c → cl.lookup y = some c → x = y
theorem lookup_pair {cl : List (Str × Addr)} {x : Str} {c : Addr} (h : cl.lookup x = some c) : (x, c) ∈ cl := by
 induction cl with
 | nil => cases h
 | cons a r ih =>
   obtain ⟨y, d⟩ := a
   rw [List.lookup_cons] at h
   by_cases e : (x == y) = true
   · simp only [e] at h
     cases h
     rw [eq_of_beq e]
     exact .head _
   · simp only [Bool.not_eq_true _ ▸ e] at h
     exact .tail _ (ih h)
theorem cellInj_of {cl : List (Str × Addr)} (h : cl.Pairwise fun a b => @Ne Nat a.2 b.2) : CellInj cl := fun x y c hx hy => by
 have h1 := lookup_pair hx
 have h2 := lookup_pair hy
 clear hx hy
 revert h1 h2
 induction cl with
 | nil => intro h1; cases h1
 | cons a r ih =>
   intro h1 h2
   obtain ⟨k1, k2⟩ := List.pairwise_cons.mp h
   rcases List.mem_cons.mp h1 with e1 | m1
   · rcases List.mem_cons.mp h2 with e2 | m2
     · rw [← e1] at e2; exact (congrArg Prod.fst e2).symm
     · rw [← e1] at k1; exact absurd (show @Eq Nat c c from rfl) (k1 (y, c) m2)
   · rcases List.mem_cons.mp h2 with e2 | m2
     · rw [← e2] at k1; exact absurd (show @Eq Nat c c from rfl) (k1 (x, c) m1)
     · exact ih k2 m1 m2
section
variable {cl : List (Str × Addr)} {led led' P P' : List (Addr × Obj)} {cv : Str → Option Value} {h₀ h : Heap} {L : Addr}
theorem Hold.more (H : Hold cl led P cv) (hs : ∀ q ∈ led, q ∈ led') : Hold cl led' P cv := ⟨fun q hq => hs q (H.sub q hq), H.off, fun x c hc => (H.cell x c hc).imp fun o k => ⟨hs _ k.1, k.2⟩⟩
theorem Hold.cons {a : Addr × Obj} (H : Hold cl led P cv) : Hold cl (a :: led) P cv := H.more fun _ => .tail _
theorem Hold.app {o : List (Addr × Obj)} (H : Hold cl led P cv) : Hold cl (o ++ led) P cv := H.more fun _ => List.mem_append_right _
theorem Hold.less (H : Hold cl led P cv) (hs : ∀ q ∈ P', q ∈ P) : Hold cl led P' cv := ⟨fun q hq => H.sub q (hs q hq), fun q hq => H.off q (hs q hq), H.cell⟩
theorem Hold.addO (H : Hold cl led P cv) {o data P₀ : List (Addr × Obj)} {cv₀ : Str → Option Value} {ow : List Addr} (H₀ : Hold cl data P₀ cv₀) (hm : ∀ q ∈ o, q ∈ led) (ho : ∀ q ∈ o, q.1 ∈ ow) (hn : ∀ q ∈ data, q.1 ∉ ow) : Hold cl led (o ++ P) cv := by
 refine ⟨fun q hq => (List.mem_append.mp hq).elim (hm q) (H.sub q), fun q hq x c hc e => ?_, H.cell⟩
 rcases List.mem_append.mp hq with hq | hq
 · obtain ⟨o', k1, _⟩ := H₀.cell x c hc
   exact hn _ k1 (by rw [← show q.1 = c from e]; exact ho q hq)
 · exact H.off q hq x c hc e
noncomputable def notCell (q : Addr × Obj) : Bool := match q.2.data with
 | .cell _ => false
 | _ => true
theorem notCell_ne {q : Addr × Obj} (h : notCell q = true) : ∀ v, q.2.data ≠ .cell v := fun v e => by
 unfold notCell at h
 rw [e] at h
 cases h
theorem Hold.adds (H : Hold cl led P cv) {xs : List (Addr × Obj)} (N : News h₀ L h (xs ++ led)) (hx : xs.all notCell = true) : Hold cl (xs ++ led) (xs ++ P) cv := by
 have hx' := List.all_eq_true.mp hx
 refine ⟨fun q hq => ?_, fun q hq x c hc e => ?_, fun x c hc => (H.cell x c hc).imp fun o k => ⟨List.mem_append_right _ k.1, k.2⟩⟩
 · exact (List.mem_append.mp hq).elim (fun h => List.mem_append_left _ h) fun h => List.mem_append_right _ (H.sub q h)
 · rcases List.mem_append.mp hq with hq | hq
   · obtain ⟨o', k1, k2⟩ := H.cell x c hc
     have g1 := (N q (List.mem_append_left _ hq)).1
     rw [show q.1 = c from e, (N _ (List.mem_append_right xs k1)).1] at g1
     exact notCell_ne (hx' q hq) _ ((congrArg Obj.data (Option.some.inj g1)).symm.trans k2)
   · exact H.off q hq x c hc e
theorem Hold.push (H : Hold cl led P cv) {a : Addr} {o : Obj} (hl : ∀ p ∈ led, @LT.lt Nat _ p.1 a) : Hold cl ((a, o) :: led) ((a, o) :: P) cv := by
 refine ⟨fun q hq => ?_, fun q hq x c hc e => ?_, H.cons.cell⟩
 · rcases List.mem_cons.mp hq with rfl | hq
   · exact .head _
   · exact .tail _ (H.sub q hq)
 · rcases List.mem_cons.mp hq with rfl | hq
   · obtain ⟨o', k1, _⟩ := H.cell x c hc
     exact Nat.ne_of_gt (hl _ k1) e
   · exact H.off q hq x c hc e
theorem Hold.set {a : Addr} {o o' : Obj} (H : Hold cl led ((a, o) :: P) cv) (hp : ∀ q ∈ P, q.1 ≠ a) : Hold cl (upd a o' led) ((a, o') :: P) cv := by
 refine ⟨fun q hq => ?_, fun q hq => ?_, fun x c hc => ?_⟩
 · rcases List.mem_cons.mp hq with rfl | hq
   · exact .head _
   · exact upd_keep (H.sub q (.tail _ hq)) (hp q hq)
 · rcases List.mem_cons.mp hq with rfl | hq
   · exact fun x c hc => H.off (a, o) (.head _) x c hc
   · exact H.off q (.tail _ hq)
 · obtain ⟨o2, k1, k2⟩ := H.cell x c hc
   exact ⟨o2, upd_keep k1 (Ne.symm (H.off _ (.head _) x c hc)), k2⟩
theorem Hold.leave (H : Hold cl led P cv) {data P₀ : List (Addr × Obj)} {cv₀ : Str → Option Value} {ow : List Addr} (H₀ : Hold cl data P₀ cv₀) (hn : ∀ q ∈ data, q.1 ∉ ow) (hp : ∀ q ∈ P, q.1 ∉ ow) : Hold cl (led.filter fun q => decide (q.1 ∉ ow)) P cv :=
 ⟨fun q hq => List.mem_filter.mpr ⟨H.sub q hq, decide_eq_true (hp q hq)⟩, H.off, fun x c hc => by
   obtain ⟨o, k1, k2⟩ := H.cell x c hc
   obtain ⟨o', k3, _⟩ := H₀.cell x c hc
   exact ⟨o, List.mem_filter.mpr ⟨k1, decide_eq_true (hn (c, o') k3)⟩, k2⟩⟩
end
section
variable {M : Model} {A : Around} {E : Value → Shared → Prop} {s : Shared} {h₀ : Heap} {L a C : Addr} {m : Str → Option Value} {cn : Str} {cs scope : Scope} {ccd : Value} {cl cl0 : List (Str × Addr)} {env : Env} {led P : List (Addr × Obj)} {cv : Str → Option Value} {x : Str} {c : Addr} {pos : Pos} {v : Value}
theorem nmH {Q : Value → Shared → Prop} (g : nmIs .cell env x = true) (N : News h₀ L s.heap led) (H : Hold cl led P cv) (hc : env.cells.lookup x = some c) (hc0 : cl.lookup x = some c) (hv : cv x = some v) (h : Q v s) : wpAny M A (eval (.Name x pos) env) Q E s := by
 obtain ⟨o, k1, k2⟩ := H.cell x c hc0
 exact wpAny_Name (wpAny_loadName_cell (of_decide_eq_true g).2.1 (of_decide_eq_true g).1 hc ⟨o, N.get k1, hv ▸ k2⟩ h) (of_decide_eq_true g).2.2
theorem storeX_H {Q : Unit → Shared → Prop} (F : Fr h₀ L s.heap m) (N : News h₀ L s.heap led) (H : Hold cl led P cv) (hi : CellInj cl) (hc : cl.lookup x = some c)
   (h : ∀ h' Z, Fr h₀ L h' m → News h₀ L h' Z → Hold cl Z P (fun y => if y = x then some v else cv y) → Q () { s with heap := h' })
   (hk : cs.kind = .function := by rfl) (hx : (envX cn cs L a ccd cl).kindOf x = some .cell := by rfl) : wpAny M A (storeName (envX cn cs L a ccd cl) x v) Q E s := by
 obtain ⟨o, k1, k2⟩ := H.cell x c hc
 have N' : News h₀ L s.heap (upd c o led) := fun p hp => by
   rcases List.mem_cons.mp hp with rfl | hp
   · exact N _ k1
   · exact N p (List.mem_filter.mp hp).1
 refine storeX_C F N' hc (.head fun p hp => of_decide_eq_true (List.mem_filter.mp hp).2) k2 (fun h' o' F2 N2 hd => h h' (upd c o' led) F2 N2 ⟨fun q hq => ?_, H.off, fun y d hd' => ?_⟩) hk hx
 · exact upd_keep (H.sub q hq) (H.off q hq x c hc)
 · by_cases e : y = x
   · subst e
     rw [hc] at hd'
     cases hd'
     exact ⟨o', .head _, by rw [if_pos rfl]; exact hd⟩
   · obtain ⟨o2, g1, g2⟩ := H.cell y d hd'
     exact ⟨o2, upd_keep g1 (fun q => e (hi y x c (by rw [← show d = c from q]; exact hd') hc)), by rw [if_neg e]; exact g2⟩
end
section
variable {prog : Program} {w : World} {A : Around} {h₀ : Heap} {L : Addr} {m : Str → Option Value} {led : List (Addr × Obj)} {s : Shared} {E : Value → Shared → Prop}
theorem min_tup {T : Addr} {t : IT} {Q : Value → Shared → Prop} (hh : A.handled = none) (F : Fr h₀ L s.heap m) (N : News h₀ L s.heap led) (hT : TupAt led T t)
   (h : ∀ h' M u tk, Fr h₀ L h' m → News h₀ L h' led → M ≤ t.1 ∧ M ≤ t.2.1 ∧ M ≤ t.2.2 → Q (.int M u) { s with heap := h', toks := tk }) : wpAny (model prog w) A (call (.builtin "min") [.ref T]) Q E s := by
 refine x4a1 hT ?_; clear hT; rintro a b c z k
 have hl : s.heap.IsTuple T #[Value.int t.1 a, Value.int t.2.1 b, Value.int t.2.2 c] := ⟨_, (N _ k).1, rfl, _, rfl⟩
 have hlt : T < s.heap.objs.size := Heap.lt_size (N _ k).1
 refine call_min_walk (wpAny_pyIter_tuple hl ?_)
 have val : ∀ i v, (#[Value.int t.1 a, Value.int t.2.1 b, Value.int t.2.2 c] : Array Value)[i]? = some v → ∃ u, v = Value.int (match i with | 0 => t.1 | 1 => t.2.1 | _ => t.2.2) u := fun i v hv => by
   match i with
   | 0 => exact ⟨a, (Option.some.inj hv).symm⟩
   | 1 => exact ⟨b, (Option.some.inj hv).symm⟩
   | 2 => exact ⟨c, (Option.some.inj hv).symm⟩
   | n + 3 => simp at hv
 refine ⟨_, _, _, _, _, _, _, rfl, Walks.tuple (A := A.in1) hh _ T (Nat.ne_of_lt hlt) _, ⟨⟨_, Heap.get?_push_size _ rfl, rfl, rfl⟩, hl.push _⟩, fun d hd => ?_, (Nat.zero_lt_succ 2), CmpOf.ints_lt (fun i => match i with | 0 => t.1 | 1 => t.2.1 | _ => t.2.2) val, fun v h' tk hP hk => ?_⟩
 · show d < (s.heap.push _).objs.size
   rw [Heap.size_push]
   rcases List.mem_cons.mp hd with rfl | hd
   · exact Nat.lt_succ_self _
   · rw [List.mem_singleton.mp hd]; exact Nat.lt_succ_of_lt hlt
 · have up : ∀ b o, s.heap.get? b = some o → h'.get? b = some o := fun b o e => hk b o (fun hm => by
     rw [List.mem_singleton.mp hm] at e
     exact absurd (Heap.lt_size e) (Nat.lt_irrefl _)) (Heap.get?_push_of_some _ e)
   obtain ⟨u, rfl⟩ := val _ v hP
   have hb := (argBest_lt (fun i => match i with | 0 => t.1 | 1 => t.2.1 | _ => t.2.2) 2).2
   exact h _ _ _ _ (F.keeps up) (fun q hq => ⟨up _ _ (N q hq).1, (N q hq).2⟩) ⟨hb 0 (by decide), hb 1 (by decide), hb 2 (by decide)⟩
end
theorem cellsFrom_low : ∀ (names : List (Str × NameKind)) (n : Nat) (acc : List (Str × Addr)), ∀ y ∈ cellsFrom n names acc, y ∈ acc ∨ @LE.le Nat _ n y.2
 | [], _, _, y, hy => .inl hy
 | (z, k) :: r, n, acc, y, hy => by
   unfold cellsFrom at hy
   split at hy
   · rcases cellsFrom_low r (n + 1) _ y hy with h | h
     · rcases List.mem_cons.mp h with rfl | h
       · exact .inr (Nat.le_refl _)
       · exact .inl h
     · exact .inr (Nat.le_of_succ_le h)
   · exact cellsFrom_low r n acc y hy
theorem cellsFrom_apart : ∀ (names : List (Str × NameKind)) (n : Nat) (acc : List (Str × Addr)), (acc.Pairwise fun a b => @Ne Nat a.2 b.2) → (∀ y ∈ acc, @LT.lt Nat _ y.2 n) → (cellsFrom n names acc).Pairwise fun a b => @Ne Nat a.2 b.2
 | [], _, _, h, _ => h
 | (z, k) :: r, n, acc, h, hl => by
   unfold cellsFrom
   split
   · refine cellsFrom_apart r (n + 1) _ (List.pairwise_cons.mpr ⟨fun y hy => Nat.ne_of_gt (hl y hy), h⟩) fun y hy => ?_
     rcases List.mem_cons.mp hy with rfl | hy
     · exact Nat.lt_succ_self _
     · exact Nat.lt_succ_of_lt (hl y hy)
   · exact cellsFrom_apart r n acc h hl
theorem cellInj_from (names : List (Str × NameKind)) (n : Nat) : CellInj (cellsFrom n names []) := cellInj_of (cellsFrom_apart names n [] .nil fun _ h => nomatch h)
theorem cellsFrom_fst : ∀ (names : List (Str × NameKind)) (n k : Nat) (acc acc' : List (Str × Addr)), acc.map Prod.fst = acc'.map Prod.fst → (cellsFrom n names acc).map Prod.fst = (cellsFrom k names acc').map Prod.fst
 | [], _, _, _, _, h => h
 | (z, q) :: r, n, k, acc, acc', h => by
   unfold cellsFrom
   split
   · exact cellsFrom_fst r _ _ _ _ (by rw [List.map_cons, List.map_cons, h])
   · exact cellsFrom_fst r _ _ _ _ h
theorem hold_cells {cm : Str → Option Value} {cl : List (Str × Addr)} {cells news led : List (Addr × Obj)} {L' : Nat} (Y : CellsAre cm cl cells) (hl : led = cells ++ news) (l1 : ∀ p ∈ news, @LT.lt Nat _ p.1 L') (hc : ∀ y ∈ cl, @LT.lt Nat _ L' y.2) : Hold cl led news cm := by
 subst hl
 refine ⟨fun q hq => List.mem_append_right _ hq, fun q hq x c hx e => ?_, fun x c hx => ?_⟩
 · have := hc _ (lookup_pair hx)
   have := l1 q hq
   rw [show q.1 = c from e] at this
   exact Nat.lt_asymm this (by assumption)
 · have : ∃ o, (c, o) ∈ cells ∧ o.data = .cell (cm x) := by
     clear l1 hc
     induction Y with
     | nil => cases hx
     | cons _ _ ih =>
       rw [List.lookup_cons] at hx
       split at hx
       · rename_i e
         cases hx
         rw [eq_of_beq e]
         exact ⟨_, .head _, by assumption⟩
       · obtain ⟨o, k1, k2⟩ := ih hx
         exact ⟨o, .tail _ k1, k2⟩
   obtain ⟨o, k1, k2⟩ := this
   exact ⟨o, List.mem_append_left _ k1, k2⟩
theorem hold_open {names : List (Str × NameKind)} {cm cv : Str → Option Value} {ns : List Str} {L L' : Nat} {g h : Heap} {cells news : List (Addr × Obj)} {G : Prop} (N : News g L h (cells ++ news)) (Y : CellsAre cm (cellsFrom (L' + 1) names []) cells) (l1 : ∀ p ∈ news, @LT.lt Nat _ p.1 L') (hns : (cellsFrom 0 names []).map Prod.fst = ns) (hcv : ∀ x ∈ ns, cm x = cv x)
   (k : ∀ led, News g L h led → Hold (cellsFrom (L' + 1) names []) led news cv → CellInj (cellsFrom (L' + 1) names []) → (∀ y ∈ cellsFrom (L' + 1) names [], @LT.lt Nat _ L' y.2) → G) : G := by
 have hc : ∀ y ∈ cellsFrom (L' + 1) names [], @LT.lt Nat _ L' y.2 := fun y hy => (cellsFrom_low names (L' + 1) [] y hy).elim (fun h => nomatch h) fun h => h
 have H := hold_cells (led := cells ++ news) Y rfl l1 hc
 refine k _ N ⟨H.sub, H.off, fun x c hx => ?_⟩ (cellInj_from names _) hc
 obtain ⟨o, k1, k2⟩ := H.cell x c hx
 refine ⟨o, k1, ?_⟩
 rw [← hcv x]
 · exact k2
 · rw [← hns, cellsFrom_fst names 0 (L' + 1) [] [] rfl]
   exact List.mem_map.mpr ⟨(x, c), lookup_pair hx, rfl⟩
end
section
theorem lexLt_of {x y : Mon} (h : codeM x ≤ codeM y) (hne : x ≠ y) (lx : Le3 x) (ly : Le3 y) : lexLt x y := by
 obtain ⟨a, b, c⟩ := x
 obtain ⟨a', b', c'⟩ := y
 obtain ⟨h1, h2, h3⟩ := lx
 obtain ⟨h1', h2', h3'⟩ := ly
 dsimp only [codeM] at h h1 h2 h3 h1' h2' h3'
 show a < a' ∨ (a = a' ∧ (b < b' ∨ (b = b' ∧ c < c')))
 rcases Nat.lt_trichotomy a a' with e | e | e
 · exact .inl e
 · subst e
   refine .inr ⟨rfl, ?_⟩
   rcases Nat.lt_trichotomy b b' with e | e | e
   · exact .inl e
   · subst e
     refine .inr ⟨rfl, Nat.lt_of_le_of_ne (by omega) fun e => hne (by rw [e])⟩
   · omega
 · omega
theorem lexLt_ne {x y : Mon} (h : lexLt x y) : x ≠ y := fun e => by
 subst e
 exact h.elim (Nat.lt_irrefl _) fun h => h.2.elim (Nat.lt_irrefl _) fun h => Nat.lt_irrefl _ h.2
theorem takeJ_lex (f : Nat → Nat → Nat) : (takeJ f 3).Pairwise lexLt := by
 unfold takeJ
 refine List.pairwise_flatMap.mpr ⟨fun j _ => ?_, List.pairwise_lt_range.imp fun {j j'} hj x hx y hy => ?_⟩
 · unfold takeK
   refine List.pairwise_flatMap.mpr ⟨fun k _ => ?_, List.pairwise_lt_range.imp fun {k k'} hk x hx y hy => ?_⟩
   · unfold takeL
     rw [List.pairwise_map]
     exact List.pairwise_lt_range.imp fun h => .inr ⟨rfl, .inr ⟨rfl, h⟩⟩
   · obtain ⟨l, _, rfl⟩ := List.mem_map.mp hx
     obtain ⟨l', _, rfl⟩ := List.mem_map.mp hy
     exact .inr ⟨rfl, .inl hk⟩
 · unfold takeK at hx hy
   obtain ⟨k, _, hx⟩ := List.mem_flatMap.mp hx
   obtain ⟨k', _, hy⟩ := List.mem_flatMap.mp hy
   obtain ⟨l, _, rfl⟩ := List.mem_map.mp hx
   obtain ⟨l', _, rfl⟩ := List.mem_map.mp hy
   exact .inl hj
theorem takeJ_nodup (f : Nat → Nat → Nat) : (takeJ f 3).Nodup := List.nodup_iff_pairwise_ne.mpr ((takeJ_lex f).imp lexLt_ne)
theorem takeJ_first {f : Nat → Nat → Nat} (h : 0 < f 0 0) : (takeJ f 3)[0]? = some (0, 0, 0) := by
 obtain ⟨n, e⟩ : ∃ n, f 0 0 = n + 1 := ⟨f 0 0 - 1, (Nat.succ_pred_eq_of_pos h).symm⟩
 have : takeJ f 3 = (0, 0, 0) :: ((takeJ f 3).drop 1) := by
   unfold takeJ
   rw [show List.range 3 = [0, 1, 2] from rfl, List.flatMap_cons]
   unfold takeK
   rw [show List.range 3 = [0, 1, 2] from rfl, List.flatMap_cons]
   unfold takeL
   rw [e, List.range_succ_eq_map]
   rfl
 rw [this]
 rfl
theorem three_pos {p : Nat → Bool} {v : Nat} (hv : v < 3) (h : p v = true) : 0 < three p := by
 unfold three
 rcases two (Nat.le_of_lt_succ hv) with rfl | rfl | rfl
 · rw [if_pos h]; exact Nat.lt_of_lt_of_le (Nat.lt_add_right _ Nat.zero_lt_one) (Nat.le_add_right _ _)
 · rw [if_pos h]; exact Nat.lt_of_lt_of_le (Nat.succ_pos _) (Nat.le_add_right _ _)
 · rw [if_pos h]; exact Nat.succ_pos _
theorem cntC_pos {χ : Nat → Nat → Nat → Bool} {a b c : Nat} (ha : a < 3) (hb : b < 3) (hc : c < 3) (h : χ a b c = true) : 0 < cntC χ 0 0 :=
 three_pos hc (decide_eq_true (three_pos hb (decide_eq_true (three_pos ha h))))
theorem just_hyp {χ : Nat → Nat → Nat → Bool} {P T : List Mon} (hχ : ∀ a b c : Nat, χ a b c = true → (a, b, c) ∈ P) (hT : T = takeJ (cntC χ) 3) (hl : P.length = T.length) :
   ∀ bs ls : List Mon, bs.Nodup → (∀ x ∈ bs, x ∉ T ∧ Le3 x) → ls.Perm (T ++ bs) → ls.Pairwise (fun a b => codeM a ≤ codeM b) → justGo (P.map toI) T ls [] = true := by
 intro bs ls hbn hb hp hs
 have hm : ∀ t ∈ T, inGrid t ∧ t.2.2 < cntC χ t.1 t.2.1 := fun t ht => by
   rw [hT] at ht
   obtain ⟨k1, k2, k3⟩ := take_mem.mp ht
   exact ⟨⟨Nat.le_of_lt_succ k1, Nat.le_of_lt_succ k2, Nat.le_of_lt_succ (Nat.lt_of_lt_of_le k3 (cntC_le χ t.1 t.2.1))⟩, k3⟩
 have hTn : T.Nodup := by rw [hT]; exact takeJ_nodup _
 have hn : ls.Nodup := hp.nodup_iff.mpr (List.nodup_append.mpr ⟨hTn, hbn, fun a ha b hb' e => (hb b hb').1 (e ▸ ha)⟩)
 have hle : ∀ t ∈ ls, Le3 t := fun t ht => by
   rcases List.mem_append.mp (hp.mem_iff.mp ht) with h | h
   · have k := (hm t h).1
     exact ⟨Nat.le_succ_of_le k.1, Nat.le_succ_of_le k.2.1, Nat.le_succ_of_le k.2.2⟩
   · exact (hb t h).2
 have hlex : ls.Pairwise lexLt := (hs.and (List.nodup_iff_pairwise_ne.mp hn)).imp_of_mem fun {a b} ha hb h => lexLt_of h.1 h.2 (hle a ha) (hle b hb)
 refine just_true (χ := χ) (fun a b c h => List.mem_map.mpr ⟨(a, b, c), hχ a b c h, rfl⟩) hm ls [] [] { ent := fun _ h => (nomatch h), tri := List.Pairwise.nil } hlex (fun _ _ _ h => nomatch h) ?_
 rw [(hp.filter _).length_eq, List.filter_append, List.length_append, List.filter_eq_self.mpr fun t ht => decide_eq_true ht, List.length_map, hl]
 omega
theorem sum3_comm (f : Nat → Nat → Nat) : (sum3 fun i => sum3 fun j => f i j) = sum3 fun j => sum3 fun i => f i j := sw9 _ _ _ _ _ _ _ _ _
theorem one_filter (p : Nat → Bool) (n : Nat) : ([n].filter p).length = if p n then 1 else 0 := by
 cases h : p n <;> simp only [List.filter, h] <;> rfl
theorem flat_filter (p : Nat → Bool) (g : Nat → List Nat) : (((List.range 3).flatMap g).filter p).length = sum3 fun i => ((g i).filter p).length := by
 show ((g 0 ++ (g 1 ++ (g 2 ++ []))).filter p).length = _
 rw [List.append_nil, List.filter_append, List.filter_append, List.length_append, List.length_append, ← Nat.add_assoc]
 rfl
theorem total_range (χ : Nat → Nat → Nat → Bool) : total χ = ((List.range 27).filter fun n => χ (n / 9) (n / 3 % 3) (n % 3)).length := by
 rw [show List.range 27 = (List.range 3).flatMap fun a => (List.range 3).flatMap fun b => (List.range 3).flatMap fun c => [9 * a + 3 * b + c] from rfl]
 simp only [flat_filter, one_filter]
 show (sum3 fun c => sum3 fun b => sum3 fun a => if χ a b c then 1 else 0) = sum3 fun a => sum3 fun b => sum3 fun c => if χ a b c then 1 else 0
 exact (sum3_comm _).trans ((congrArg sum3 (funext fun b => sum3_comm _)).trans (sum3_comm _))
theorem take_len (χ : Nat → Nat → Nat → Bool) : (takeJ (cntC χ) 3).length = total χ := by rw [take3_len, count_all]
theorem pts_len {χ : Nat → Nat → Nat → Bool} {codes : List Nat} (hn : codes.Nodup) (hlt : ∀ n ∈ codes, n < 27) (h : ∀ n, n < 27 → (χ (n / 9) (n / 3 % 3) (n % 3) = true ↔ n ∈ codes)) : codes.length = total χ := by
 rw [total_range]
 refine List.Perm.length_eq ((List.perm_ext_iff_of_nodup hn (List.nodup_range.filter _)).mpr fun n => ?_)
 rw [List.mem_filter, List.mem_range]
 exact ⟨fun hm => ⟨hlt n hm, (h n (hlt n hm)).mpr hm⟩, fun hm => (h n hm.1).mp hm.2⟩
noncomputable def digOf (n : Nat) : Mon := (n / 9, n / 3 % 3, n % 3)
theorem digOf_le {n : Nat} (h : n < 27) : (digOf n).1 ≤ 2 ∧ (digOf n).2.1 ≤ 2 ∧ (digOf n).2.2 ≤ 2 := by
 exact ⟨Nat.le_of_lt_succ (Nat.div_lt_of_lt_mul h), Nat.le_of_lt_succ (Nat.mod_lt _ (by decide)), Nat.le_of_lt_succ (Nat.mod_lt _ (by decide))⟩
noncomputable def codeAt (o : Array UInt8) (i : Nat) : Nat := 9 * (o.getD (3 * i) 0).toNat + 3 * (o.getD (3 * i + 1) 0).toNat + (o.getD (3 * i + 2) 0).toNat
theorem dig_code {x y z : Nat} (hy : y < 3) (hz : z < 3) : digOf (9 * x + 3 * y + z) = (x, y, z) := by
 have e : (9 * x + 3 * y + z) / 3 = 3 * x + y := by
   rw [show 9 * x + 3 * y + z = z + 3 * (3 * x + y) from by rw [Nat.mul_add, ← Nat.mul_assoc]; exact Nat.add_comm _ _, Nat.add_mul_div_left _ _ (by decide), Nat.div_eq_of_lt hz, Nat.zero_add]
 unfold digOf
 rw [show (9 * x + 3 * y + z) / 9 = (9 * x + 3 * y + z) / 3 / 3 from (Nat.div_div_eq_div_mul _ 3 3).symm, e, Nat.mul_add_mod, Nat.mod_eq_of_lt hy, Nat.mul_add_div (by decide), Nat.div_eq_of_lt hy,
   show 9 * x + 3 * y + z = 3 * (3 * x + y) + z from by rw [Nat.mul_add, ← Nat.mul_assoc], Nat.mul_add_mod, Nat.mod_eq_of_lt hz]
 rfl
theorem code_dig (k : Nat) : 9 * (k / 9) + 3 * (k / 3 % 3) + k % 3 = k := by
 rw [show 9 * (k / 9) = 3 * (3 * (k / 3 / 3)) from by rw [Nat.div_div_eq_div_mul, ← Nat.mul_assoc], ← Nat.mul_add, Nat.div_add_mod, Nat.div_add_mod]
theorem ptOf_dig {o : Array UInt8} (h3 : ∀ j, (o.getD j 0).toNat < 3) (i : Nat) : (ptOf o i) = [(digOf (codeAt o i)).1, (digOf (codeAt o i)).2.1, (digOf (codeAt o i)).2.2] := by
 unfold codeAt
 rw [dig_code (h3 _) (h3 _)]
 rfl
theorem code27 {x y z : Nat} (hx : x < 3) (hy : y < 3) (hz : z < 3) : 9 * x + 3 * y + z < 27 := (by decide : ∀ x y z : Fin 3, 9 * x.1 + 3 * y.1 + z.1 < 27) ⟨x, hx⟩ ⟨y, hy⟩ ⟨z, hz⟩
theorem codeAt_lt {o : Array UInt8} (h3 : ∀ j, (o.getD j 0).toNat < 3) (i : Nat) : codeAt o i < 27 :=
 code27 (h3 _) (h3 _) (h3 _)
theorem chi_codes {o c : Array UInt8} {n : Nat} {codes : List Nat} (h3 : ∀ j, (o.getD j 0).toNat < 3) (hc : ∀ i, i < n → ptOf c i = (ptOf o i).reverse) (hm : ∀ x, x ∈ codes ↔ ∃ i, i < n ∧ x = codeAt o i) (x y z : Nat) :
   chi c n x y z = true ↔ ∃ k ∈ codes, digOf k = (x, y, z) := by
 rw [chi_iff]
 constructor
 · rintro ⟨i, hi, e⟩
   rw [hc i hi, ptOf_dig h3] at e
   refine ⟨codeAt o i, (hm _).mpr ⟨i, hi, rfl⟩, ?_⟩
   simp only [List.reverse_cons, List.reverse_nil, List.nil_append, List.cons_append, List.cons.injEq, and_true] at e
   rw [← e.1, ← e.2.1, ← e.2.2]
 · rintro ⟨k, hk, e⟩
   obtain ⟨i, hi, rfl⟩ := (hm k).mp hk
   refine ⟨i, hi, ?_⟩
   rw [hc i hi, ptOf_dig h3, e]
   rfl
theorem digOf_inj {a b : Nat} (h : digOf a = digOf b) : a = b := by
 rw [← code_dig a, ← code_dig b]
 exact congrArg (fun t : Mon => 9 * t.1 + 3 * t.2.1 + t.2.2) h
theorem codes_len {o c : Array UInt8} {n : Nat} {codes : List Nat} (h3 : ∀ j, (o.getD j 0).toNat < 3) (hc : ∀ i, i < n → ptOf c i = (ptOf o i).reverse) (hm : ∀ x, x ∈ codes ↔ ∃ i, i < n ∧ x = codeAt o i) (hn : codes.Nodup) :
   codes.length = (takeJ (cntC (chi c n)) 3).length := by
 rw [take_len]
 refine pts_len hn (fun k hk => ?_) fun k hk => ?_
 · obtain ⟨i, _, rfl⟩ := (hm k).mp hk
   exact codeAt_lt h3 i
 · rw [chi_codes h3 hc hm]
   exact ⟨fun ⟨k', hk', e⟩ => by rw [← digOf_inj (show digOf k' = digOf k from e)]; exact hk', fun h => ⟨k, h, rfl⟩⟩
theorem pts_mem {o c : Array UInt8} {n : Nat} {codes : List Nat} (h3 : ∀ j, (o.getD j 0).toNat < 3) (hc : ∀ i, i < n → ptOf c i = (ptOf o i).reverse) (hm : ∀ x, x ∈ codes ↔ ∃ i, i < n ∧ x = codeAt o i) (x y z : Nat) (h : chi c n x y z = true) : (x, y, z) ∈ codes.map digOf := by
 obtain ⟨k, hk, e⟩ := (chi_codes h3 hc hm x y z).mp h
 exact List.mem_map.mpr ⟨k, hk, e⟩
noncomputable def d3 (n : Nat) : List Nat := [n / 9, n / 3 % 3, n % 3]
theorem flat3 : ∀ (l : List Nat) (i k : Nat), l[i]? = some k → (l.flatMap d3)[3 * i]? = some (k / 9) ∧ (l.flatMap d3)[3 * i + 1]? = some (k / 3 % 3) ∧ (l.flatMap d3)[3 * i + 2]? = some (k % 3)
 | [], _, _, h => by simp at h
 | a :: l, 0, k, h => by
   cases h
   exact ⟨rfl, rfl, rfl⟩
 | a :: l, i + 1, k, h => by
   have := flat3 l i k h
   rw [show 3 * (i + 1) = 3 * i + 1 + 1 + 1 from rfl, List.flatMap_cons]
   exact this
theorem getD_nat {o : Array UInt8} {j v : Nat} (h : (o.toList.map UInt8.toNat)[j]? = some v) : (o.getD j 0).toNat = v := by
 rw [List.getElem?_map, Array.getElem?_toList] at h
 rw [Array.getD_eq_getD_getElem?]
 cases e : o[j]? with
 | none => rw [e] at h; cases h
 | some x => rw [e] at h; exact Option.some.inj h
theorem flat3_code {o : Array UInt8} {l : List Nat} (ho : o.toList.map UInt8.toNat = l.flatMap d3) {i k : Nat} (hi : l[i]? = some k) : codeAt o i = k := by
 obtain ⟨h1, h2, h3⟩ := flat3 l i k hi
 rw [← ho] at h1 h2 h3
 unfold codeAt
 rw [getD_nat h1, getD_nat h2, getD_nat h3]
 exact code_dig k
theorem flat3_small {o : Array UInt8} {l : List Nat} (ho : o.toList.map UInt8.toNat = l.flatMap d3) (hl : ∀ k ∈ l, k < 27) (j : Nat) : (o.getD j 0).toNat < 3 := by
 cases e : (o.toList.map UInt8.toNat)[j]? with
 | none =>
   rw [List.getElem?_map, Array.getElem?_toList] at e
   rw [Array.getD_eq_getD_getElem?, Option.map_eq_none_iff.mp e]
   decide
 | some v =>
   rw [getD_nat e]
   have hm := List.mem_of_getElem? e
   rw [ho] at hm
   obtain ⟨k, hk, hv⟩ := List.mem_flatMap.mp hm
   exact (ac (P := (· < 3)) (Nat.div_lt_of_lt_mul (hl k hk)) (ac (Nat.mod_lt _ (by decide)) (ac (Nat.mod_lt _ (by decide)) ac0)) : ∀ v ∈ d3 k, v < 3) v hv
theorem chi_not {o c o' c' : Array UInt8} {n : Nat} {codes miss : List Nat} (h3 : ∀ j, (o.getD j 0).toNat < 3) (hc : ∀ i, i < n → ptOf c i = (ptOf o i).reverse) (hm : ∀ x, x ∈ codes ↔ ∃ i, i < n ∧ x = codeAt o i)
   (hmiss : ∀ k, k ∈ miss ↔ k < 27 ∧ k ∉ codes) (ho : o'.toList.map UInt8.toNat = miss.flatMap d3) (hc' : ∀ i, i < miss.length → ptOf c' i = (ptOf o' i).reverse) {x y z : Nat} (hx : x < 3) (hy : y < 3) (hz : z < 3) :
   chi c' miss.length x y z = !chi c n x y z := by
 have hm' : ∀ k, k ∈ miss ↔ ∃ i, i < miss.length ∧ k = codeAt o' i := fun k => by
   constructor
   · intro hk
     obtain ⟨i, hi⟩ := List.getElem?_of_mem hk
     exact ⟨i, (List.getElem?_eq_some_iff.mp hi).1, (flat3_code ho hi).symm⟩
   · rintro ⟨i, hi, rfl⟩
     have hi := List.getElem?_eq_getElem hi
     rw [flat3_code ho hi]
     exact List.mem_of_getElem? hi
 have hs := flat3_small ho fun k hk => ((hmiss k).mp hk).1
 have a := chi_codes hs hc' hm' x y z
 have b := chi_codes h3 hc hm x y z
 have dg : ∀ k, k < 27 → digOf k = (x, y, z) → k = 9 * x + 3 * y + z := fun k _ e => digOf_inj (e.trans (dig_code hy hz).symm)
 have dk : digOf (9 * x + 3 * y + z) = (x, y, z) := dig_code hy hz
 have hlt : ∀ k ∈ codes, k < 27 := fun k hk => by
   obtain ⟨i, _, rfl⟩ := (hm k).mp hk
   exact codeAt_lt h3 i
 cases e : chi c n x y z with
 | true =>
   cases e' : chi c' miss.length x y z with
   | false => rfl
   | true =>
     obtain ⟨k, hk, ek⟩ := a.mp e'
     obtain ⟨k2, hk2, ek2⟩ := b.mp e
     exact absurd (by rw [digOf_inj (ek.trans ek2.symm)]; exact hk2) ((hmiss k).mp hk).2
 | false =>
   cases e' : chi c' miss.length x y z with
   | true => rfl
   | false =>
     exfalso
     have hn : 9 * x + 3 * y + z ∉ codes := fun h => by
       rw [b.mpr ⟨_, h, dk⟩] at e; cases e
     rw [a.mpr ⟨_, (hmiss _).mpr ⟨code27 hx hy hz, hn⟩, dk⟩] at e'
     cases e'
theorem take_dual {o c o' c' : Array UInt8} {n : Nat} {codes miss : List Nat} (h3 : ∀ j, (o.getD j 0).toNat < 3) (hc : ∀ i, i < n → ptOf c i = (ptOf o i).reverse) (hm : ∀ x, x ∈ codes ↔ ∃ i, i < n ∧ x = codeAt o i)
   (hmiss : ∀ k, k ∈ miss ↔ k < 27 ∧ k ∉ codes) (ho : o'.toList.map UInt8.toNat = miss.flatMap d3) (hc' : ∀ i, i < miss.length → ptOf c' i = (ptOf o' i).reverse) :
   takeJ (cntC (chi c' miss.length)) 3 = dual (takeJ (cntC (chi c n)) 3) := by
 rw [← dual_eq]
 congr 1
 funext j k
 exact cntC_congr (fun x y z hx hy hz => chi_not h3 hc hm hmiss ho hc' hx hy hz) j k
theorem take_pile {b : Array UInt8} {n : Nat} {Ns : List Nd} (h : tellOf Ns = ([], 0) :: growN b n) (hn : (Ns.map (·.p)).Nodup) (hs : small3 b n) : takeJ (pileN Ns) 3 = takeJ (cntC (chi b n)) 3 := by
 congr 1
 funext j k
 exact pileN_eq h hn hs j k
theorem small_turn {o c : Array UInt8} {n : Nat} (h3 : ∀ j, (o.getD j 0).toNat < 3) (hc : ∀ i, i < n → ptOf c i = (ptOf o i).reverse) : small3 c n := fun i hi v hv => by
 rw [hc i hi, ptOf_dig h3] at hv
 have := digOf_le (codeAt_lt h3 i)
 exact (ac (P := (· < 3)) (Nat.lt_succ_of_le this.1) (ac (Nat.lt_succ_of_le this.2.1) (ac (Nat.lt_succ_of_le this.2.2) ac0)) : ∀ v ∈ [(digOf (codeAt o i)).1, (digOf (codeAt o i)).2.1, (digOf (codeAt o i)).2.2], v < 3) v (List.mem_reverse.mp hv)
structure JustIn (T P : List Mon) : Prop where
 few : 0 < T.length ∧ T.length ≤ 15
 grid : ∀ t ∈ T, t.1 ≤ 2 ∧ t.2.1 ≤ 2 ∧ t.2.2 ≤ 2
 first : T[0]? = some (0, 0, 0)
 nodup : T.Nodup
 len : P.length = T.length
 small : ∀ q ∈ P, q.1 ≤ 2 ∧ q.2.1 ≤ 2 ∧ q.2.2 ≤ 2
 just : ∀ bs ls : List Mon, bs.Nodup → (∀ x ∈ bs, x ∉ T ∧ Le3 x) → ls.Perm (T ++ bs) → ls.Pairwise (fun a b => codeM a ≤ codeM b) → justGo (P.map toI) T ls [] = true
theorem just_in {o c : Array UInt8} {n : Nat} {codes : List Nat} (h3 : ∀ j, (o.getD j 0).toNat < 3) (hc : ∀ i, i < n → ptOf c i = (ptOf o i).reverse) (hm : ∀ x, x ∈ codes ↔ ∃ i, i < n ∧ x = codeAt o i) (hn : codes.Nodup) (h0 : 0 < n) (h15 : codes.length ≤ 15) :
   JustIn (takeJ (cntC (chi c n)) 3) (codes.map digOf) := by
 have hl := codes_len h3 hc hm hn
 have m0 : codeAt o 0 ∈ codes := (hm _).mpr ⟨0, h0, rfl⟩
 have hlt : ∀ k ∈ codes, k < 27 := fun k hk => by
   obtain ⟨i, _, rfl⟩ := (hm k).mp hk
   exact codeAt_lt h3 i
 have hp : 0 < codes.length := List.length_pos_iff.mpr fun e => by rw [e] at m0; cases m0
 have d0 := digOf_le (hlt _ m0)
 refine ⟨⟨hl ▸ hp, hl ▸ h15⟩, fun t ht => ?_, ?_, takeJ_nodup _, by rw [List.length_map]; exact hl, fun q hq => ?_, just_hyp (fun a b c' h => pts_mem h3 hc hm a b c' h) rfl (by rw [List.length_map]; exact hl)⟩
 · obtain ⟨k1, k2, k3⟩ := take_mem.mp ht
   exact ⟨Nat.le_of_lt_succ k1, Nat.le_of_lt_succ k2, Nat.le_of_lt_succ (Nat.lt_of_lt_of_le k3 (cntC_le (chi c n) t.1 t.2.1))⟩
 · exact takeJ_first (cntC_pos (Nat.lt_succ_of_le d0.1) (Nat.lt_succ_of_le d0.2.1) (Nat.lt_succ_of_le d0.2.2) ((chi_codes h3 hc hm _ _ _).mpr ⟨_, m0, rfl⟩))
 · obtain ⟨k, hk, rfl⟩ := List.mem_map.mp hq
   exact digOf_le (hlt k hk)
end
section
theorem enter_callC {M : Model} {A : Around} {s : Shared} {f : Value} {pos : List Value} {kw : List (Str × Value)} {c : ClaimW} {cl : Str → Option Addr} {mean : ExcName → Option Value} {args : List WData} {s₁ : Shared}
   (h : codeC M A (.call f ⟨pos, kw⟩) (GoodWG c cl mean args s₁) s) : wpC M A (call f pos kw) (fun v s' => GoodWG c cl mean args s₁ (.ok (.ret v)) s') (fun e s' => GoodWG c cl mean args s₁ (.error e) s') s :=
 wpC_call (codeC_mono h fun res s' g => by rcases g.1 with ⟨v, _, _, rfl, _⟩ | ⟨e, _, _, rfl, _⟩ <;> exact g)
section
variable {prog : Program} {w : World} {A : Around} {s : Shared}
theorem codeC_call_cells {R : Result → Shared → Prop} {a : Addr} {o : Obj} {fd : FuncData} {body : List Stmt} {vals : List Value} {binds : List (Str × Value)}
   (hroom : A.depth < recursionLimit) (ho : s.heap.get? a = some o) (hdata : o.data = .func fd) (hlim : s.heap.NoLimit) (hcd : s.heap.CodeRec fd.code fd.qualname)
   (hbody : fd.body = .stmts body) (hbind : bindArgs fd ⟨vals, []⟩ = pure binds) (hclo : fd.closure = [])
   (hkind : ∀ x ∈ binds, fd.scope.names.lookup x.1 = some .local ∨ (fd.scope.names.lookup x.1 = some .cell ∧ ((cellsFrom (s.heap.objs.size + 1) fd.scope.names []).lookup x.1).isSome = true))
   (h : ∀ s₁, InCallC s (callEnvC fd s.heap.objs.size a).locals (bindL (callEnvC fd s.heap.objs.size a).kindOf binds fun _ => none) (callEnvC fd s.heap.objs.size a).cells
       (bindC (callEnvC fd s.heap.objs.size a).kindOf binds fun _ => none) s₁ →
     wpC (model prog w) (A.deeper (callEnvC fd s.heap.objs.size a)) (execs body (callEnvC fd s.heap.objs.size a)) (fun f s' => R (.ok (.ret (match f with | .ret v => v | _ => .none))) s')
       (fun e s' => wpAny (model prog w) (A.deeper (callEnvC fd s.heap.objs.size a)) (leaving (callEnvC fd s.heap.objs.size a) e) (fun _ s'' => R (.error e) s'') (fun e' s'' => R (.error e') s'') s') s₁)
   (hco : fd.scope.isCoroutine = false := by rfl) (hgen : fd.scope.isGenerator = false := by rfl) (hk : fd.scope.kind = .function := by rfl) :
   codeC (model prog w) A (.call (.ref a) ⟨vals, []⟩) R s := by
 refine codeC_call_function hroom ho hdata hco hgen hbody hcd ?_
 rw [hbind, hclo]
 refine wpAny_pure (wpAny_newFunctionEnv_cells hk hkind fun env he s' x => ?_)
 subst he
 exact ⟨hlim.keeps x.toInCall.keep, codeC_func (h s' x)⟩
end
theorem call_cellsC {prog : Program} {w : World} {A : Around} {R : Result → Shared → Prop} {s : Shared} {name : Str} {params : Arguments} {body : List Stmt} {scope : Scope}
   {pm cd doc : Value} {a : Addr} {o : Obj} {args : List Value} {binds : List (Str × Value)}
   (hroom : A.depth < recursionLimit) (ho : s.heap.get? a = some o) (hdata : o.data = .func (Calls.docDef name params body scope pm cd doc)) (hlim : s.heap.NoLimit) (hcd : s.heap.CodeRec cd name)
   (hbind : bindArgs (Calls.docDef name params body scope pm cd doc) ⟨args, []⟩ = pure binds)
   (hkind : ∀ x ∈ binds, scope.names.lookup x.1 = some .local ∨ (scope.names.lookup x.1 = some .cell ∧ ((cellsFrom (s.heap.objs.size + 1) scope.names []).lookup x.1).isSome = true))
   (hnd : ((cellsFrom 0 scope.names []).map (·.1)).Nodup)
   (h : ∀ h₁ tk cells, Fr s.heap s.heap.objs.size h₁ (bindL (envOfC name scope s.heap.objs.size a cd).kindOf binds fun _ => none) → News s.heap s.heap.objs.size h₁ cells →
     CellsAre (bindC (envOfC name scope s.heap.objs.size a cd).kindOf binds fun _ => none) (cellsFrom (s.heap.objs.size + 1) scope.names []) cells →
     wpC (model prog w) (A.deeper (envOfC name scope s.heap.objs.size a cd)) (execs body (envOfC name scope s.heap.objs.size a cd))
       (fun f s' => R (.ok (.ret (match f with | .ret v => v | _ => .none))) s')
       (fun e s' => wpAny (model prog w) (A.deeper (envOfC name scope s.heap.objs.size a cd)) (leaving (envOfC name scope s.heap.objs.size a cd) e)
         (fun _ s'' => R (.error e) s'') (fun e' s'' => R (.error e') s'') s')
       { s with heap := h₁, toks := tk })
   (hco : scope.isCoroutine = false := by rfl) (hgen : scope.isGenerator = false := by rfl) (hk : scope.kind = .function := by rfl) :
   codeC (model prog w) A (.call (.ref a) ⟨args, []⟩) R s :=
 codeC_call_cells hroom ho hdata hlim hcd rfl hbind rfl hkind (fun s₁ x => by
   obtain ⟨h₁, tk, rfl, _⟩ := x.done
   obtain ⟨cells, NC, Y⟩ := Cl.news (h₀ := s.heap) (Nat.le_refl _) fun n c hm => ⟨x.cell n c (lookup_of_mem_nodup (cellsFrom_names scope.names 0 (s.heap.objs.size + 1) [] [] rfl ▸ hnd) hm), x.above n c hm⟩
   exact h h₁ tk cells ⟨x.toInCall.ns, x.toInCall.keep, Nat.le_refl _⟩ NC Y) hco hgen hk
theorem codeC_post {M : Model} {A : Around} {cd : Code} {P G : Result → Shared → Prop} {s : Shared} (h : codeC M A cd P s) (k : ∀ (M : Model) (s : Shared), codeAny M A cd P s → codeAny M A cd G s) (hok : ∀ r s, P r s → ∃ f, r = .ok f) : codeC M A cd G s := fun Γ p hc hΓ hk => by
 obtain ⟨r, s', hret, hP⟩ := h Γ p hc hΓ hk
 obtain ⟨f, rfl⟩ := hok _ _ hP
 refine ⟨_, s', hret, ?_⟩
 have hg := k ⟨fun _ => pure (Fin.done f), M.prog, M.w⟩ s' (fun Γ p _ _ => ⟨.ok f, s', by
   unfold Returns
   constructor, hP⟩) Γ p hc hΓ
 rw [wpCode_iff_wp, Sem.wp_pure'] at hg
 exact hg
theorem kn_postC {M : Model} {A : Around} {cd : Code} {s s₁ : Shared} {cw : ClaimW} {cl : Str → Option Addr} {mean : ExcName → Option Value} {args : List WData} {tabs : List (Addr × Addr)} (hT : TabsAt tabs s₁.heap) (hr : ∀ a x, cw.raises a x = false)
   (h : codeC M A cd (fun r s' => (∃ f, r = .ok f) ∧ GoodW cw cl mean args { s₁ with heap := ghostOf s₁.heap tabs } r s' ∧ GrownAll tabs s'.heap) s) : codeC M A cd (GoodWG cw cl mean args s₁) s :=
 codeC_post h (fun _ _ h' => kn_post hT hr (codeAny_mono h' fun _ _ g => g.2)) fun _ _ g => g.1
end
section
theorem below_go (xs : Array Nat) (j : Nat) (hs : ∀ i k, i < k → k < xs.size → xs.getD i j < xs.getD k j) : ∀ fuel lo hi, lo ≤ hi → hi ≤ xs.size → hi - lo ≤ fuel → (∀ i, i < lo → xs.getD i j < j) → (∀ i, hi ≤ i → i < xs.size → j ≤ xs.getD i j) →
   (∀ i, i < SetTable.below.go xs j fuel lo hi → xs.getD i j < j) ∧ (∀ i, SetTable.below.go xs j fuel lo hi ≤ i → i < xs.size → j ≤ xs.getD i j) ∧ SetTable.below.go xs j fuel lo hi ≤ xs.size
 | 0, lo, hi, h1, h2, h3, h4, h5 => by
   unfold SetTable.below.go
   exact ⟨h4, fun i hi' => h5 i (Nat.le_trans (Nat.le_of_sub_eq_zero (Nat.le_zero.mp h3)) hi'), by exact Nat.le_trans h1 h2⟩
 | f + 1, lo, hi, h1, h2, h3, h4, h5 => by
   unfold SetTable.below.go
   by_cases c : lo < hi
   · rw [if_pos c]
     dsimp only
     by_cases d : xs.getD ((lo + hi) / 2) j < j
     · rw [if_pos d]
       refine below_go xs j hs f _ _ (mid c).2 h2 (midR c h3) (fun i hi' => ?_) h5
       rcases Nat.lt_or_ge i ((lo + hi) / 2) with e | e
       · exact Nat.lt_trans (hs i _ e (Nat.lt_of_lt_of_le (mid c).2 h2)) d
       · rw [show i = (lo + hi) / 2 by exact Nat.eq_of_le_of_lt_succ e hi']; exact d
     · rw [if_neg d]
       refine below_go xs j hs f _ _ (mid c).1 (Nat.le_trans (Nat.le_of_lt (mid c).2) h2) (midL c h3) h4 fun i hi' hz => ?_
       rcases Nat.lt_or_ge ((lo + hi) / 2) i with e | e
       · exact Nat.le_trans (Nat.not_lt.mp d) (Nat.le_of_lt (hs _ i e hz))
       · rw [show i = (lo + hi) / 2 by exact Nat.le_antisymm e hi']; exact Nat.not_lt.mp d
   · rw [if_neg c]
     exact ⟨h4, fun i hi' => h5 i (Nat.le_trans (Nat.le_of_not_lt c) hi'), by exact Nat.le_trans h1 h2⟩
noncomputable def RisesN (xs : Array Nat) : Prop := xs.toList.Pairwise (· < ·)
theorem RisesN.lt {xs : Array Nat} (h : RisesN xs) (j : Nat) {i k : Nat} (hik : i < k) (hk : k < xs.size) : xs.getD i j < xs.getD k j := by
 have := List.pairwise_iff_getElem.mp h i k (by rw [Array.length_toList]; exact Nat.lt_trans hik hk) (by rw [Array.length_toList]; exact hk) hik
 rw [Array.getD_eq_getD_getElem?, Array.getD_eq_getD_getElem?, Array.getElem?_eq_getElem (Nat.lt_trans hik hk), Array.getElem?_eq_getElem hk]
 exact this
theorem below_ok {xs : Array Nat} (h : RisesN xs) (j : Nat) : (∀ i, i < SetTable.below xs j → xs.getD i j < j) ∧ (∀ i, SetTable.below xs j ≤ i → i < xs.size → j ≤ xs.getD i j) ∧ SetTable.below xs j ≤ xs.size :=
 below_go xs j (fun _ _ a b => h.lt j a b) _ _ _ (Nat.zero_le _) (Nat.le_refl _) (Nat.sub_le xs.size 0) (fun _ h => absurd h (Nat.not_lt_zero _)) fun _ a b => absurd a (Nat.not_le.mpr b)
theorem below_next {xs : Array Nat} (h : RisesN xs) {k : Nat} (hk : k < xs.size) : SetTable.below xs (xs.getD k 0 + 1) = k + 1 := by
 obtain ⟨a, b, c⟩ := below_ok h (xs.getD k 0 + 1)
 have g : xs.getD k (xs.getD k 0 + 1) = xs.getD k 0 := by rw [Array.getD_eq_getD_getElem?, Array.getD_eq_getD_getElem?, Array.getElem?_eq_getElem hk]; rfl
 rcases Nat.lt_trichotomy (SetTable.below xs (xs.getD k 0 + 1)) (k + 1) with e | e | e
 · exact absurd (g ▸ b k (Nat.le_of_lt_succ e) hk) (Nat.lt_irrefl _)
 · exact e
 · have h1 := a (k + 1) e
   have h2 := h.lt (xs.getD k 0 + 1) (show k < k + 1 by exact Nat.lt_add_one k) (Nat.lt_of_lt_of_le e c)
   exact absurd (Nat.lt_of_lt_of_le h2 (Nat.le_of_lt_succ h1)) (Nat.not_lt.mpr (Nat.le_of_eq g.symm))
theorem below_zero {xs : Array Nat} (h : RisesN xs) : SetTable.below xs 0 = 0 := by
 obtain ⟨a, _, _⟩ := below_ok h 0
 rcases Nat.eq_zero_or_pos (SetTable.below xs 0) with e | e
 · exact e
 · exact absurd (a 0 e) (Nat.not_lt_zero _)
theorem has_mem {xs : Array Nat} {i j : Nat} (e : (xs[i]? == some j) = true) : j ∈ xs.toList := by
 rw [Array.mem_toList_iff]
 exact Array.mem_of_getElem? (beq_iff_eq.mp e)
theorem rises_put {xs : Array Nat} (h : RisesN xs) {j : Nat} (hj : (xs[SetTable.below xs j]? == some j) = false) : RisesN (SetTable.insertAt xs (SetTable.below xs j) j) := by
 obtain ⟨a, b, c⟩ := below_ok h j
 have gd : ∀ i (hi : i < xs.toList.length), xs.toList[i] = xs.getD i j := fun i hi => by
   rw [Array.getD_eq_getD_getElem?, Array.getElem?_eq_getElem (by rw [Array.length_toList] at hi; exact hi)]
   rfl
 unfold RisesN
 rw [SetTable.toList_insertAt, List.pairwise_append]
 refine ⟨h.sublist (List.take_sublist _ _), List.pairwise_cons.mpr ⟨fun y hy => ?_, h.sublist (List.drop_sublist _ _)⟩, fun x hx y hy => ?_⟩
 · obtain ⟨i, hi, rfl⟩ := List.mem_iff_getElem.mp hy
   rw [List.length_drop, Array.length_toList] at hi
   rw [List.getElem_drop, gd]
   have hb := Nat.lt_of_sub_pos (Nat.zero_lt_of_lt hi)
   have h1 := b (SetTable.below xs j) (Nat.le_refl _) hb
   have h2 : xs.getD (SetTable.below xs j) j ≠ j := fun e => by
     rw [Array.getD_eq_getD_getElem?, Array.getElem?_eq_getElem hb] at e
     rw [Array.getElem?_eq_getElem hb, show xs[SetTable.below xs j] = j from e, beq_self_eq_true] at hj
     cases hj
   rcases Nat.eq_zero_or_pos i with rfl | hi0
   · rw [Nat.add_zero]; exact Nat.lt_of_le_of_ne h1 (id (Ne.symm h2))
   · have := h.lt j (show SetTable.below xs j < SetTable.below xs j + i by exact Nat.lt_add_of_pos_right hi0) (Nat.add_lt_of_lt_sub' hi)
     exact Nat.lt_of_le_of_lt h1 this
 · obtain ⟨i, hi, rfl⟩ := List.mem_iff_getElem.mp hx
   rw [List.length_take, Array.length_toList] at hi
   rw [List.getElem_take, gd]
   have hi' := a i (Nat.lt_of_lt_of_le hi (Nat.min_le_left _ _))
   rcases List.mem_cons.mp hy with rfl | hy
   · exact hi'
   · obtain ⟨k, hk, rfl⟩ := List.mem_iff_getElem.mp hy
     rw [List.length_drop, Array.length_toList] at hk
     rw [List.getElem_drop, gd]
     have := b (SetTable.below xs j + k) (Nat.le_add_right (SetTable.below xs j) k) (Nat.add_lt_of_lt_sub' hk)
     exact Nat.lt_of_lt_of_le hi' this
structure TabP (byT : Bool) (t : SetTable) (n : Nat) : Prop where
 led : byT = false → t.led = true
 plain : t.plain = true
 dum : t.dummies = #[]
 rise : RisesN t.place
 size : t.place.size = n
 few : n ≤ 4 → t.mask = 7
theorem slot_live {t : SetTable} (h : t.dummies = #[]) (j : Nat) : (t.slot j = .empty ∧ (t.place[SetTable.below t.place j]? == some j) = false) ∨ (∃ i, t.slot j = .live i) ∧ j ∈ t.place.toList := by
 unfold SetTable.slot SetTable.has
 dsimp only
 cases e : t.place[SetTable.below t.place j]? == some j with
 | true => exact .inr ⟨⟨_, if_pos rfl⟩, has_mem e⟩
 | false =>
   left
   rw [h]
   exact ⟨rfl, rfl⟩
theorem nodup_sub : ∀ (l m : List Nat), l.Nodup → (∀ x ∈ l, x ∈ m) → l.length ≤ m.length
 | [], _, _, _ => Nat.zero_le _
 | a :: l, m, hn, hs => by
   obtain ⟨h1, h2⟩ := List.nodup_cons.mp hn
   have ha := hs a (.head _)
   have := nodup_sub l (m.erase a) h2 fun x hx => (List.mem_erase_of_ne fun (e : x = a) => h1 (e ▸ hx)).mpr (hs x (.tail _ hx))
   rw [List.length_erase_of_mem ha] at this
   exact Nat.succ_le_of_lt (Nat.lt_of_le_of_lt this (Nat.sub_one_lt (Nat.ne_of_gt (List.length_pos_of_mem ha))))
noncomputable def nx8 (j : Nat) : Nat := (5 * j + 1) % 8
noncomputable def orb8 : Nat → Nat → List Nat
 | 0, _ => []
 | k + 1, j => j :: orb8 k (nx8 j)
theorem orb8_nodup : ∀ j : Fin 8, (orb8 5 j.1).Nodup := by decide
theorem orb8_len (k j : Nat) : (orb8 k j).length = k := by
 induction k generalizing j with
 | zero => rfl
 | succ k ih => rw [orb8, List.length_cons, ih]
structure At8 (p : SetTable.Probe) (j : Nat) : Prop where
 more : p.more = 0
 i : p.i = j
 j : p.j = j
 pert : p.perturb < 32
 dum : p.dummy = none
theorem probe8 {t : SetTable} {h : Int} (hm : t.mask = 7) (hd : t.dummies = #[]) (f : Nat) : ∀ (k : Nat) (p : SetTable.Probe) (j : Nat), At8 p j →
   (∃ j', SetTable.probe.go t (fun _ => h + 1) h (f + k) p = some (.empty j' none) ∧ (t.place[SetTable.below t.place j']? == some j') = false) ∨ ∀ x ∈ orb8 k j, x ∈ t.place.toList
 | 0, _, _, _ => .inr fun _ h => nomatch h
 | k + 1, p, j, H => by
   rw [← Nat.add_assoc]
   unfold SetTable.probe.go
   rw [H.j]
   rcases slot_live hd j with ⟨e, e'⟩ | ⟨⟨i, e⟩, e'⟩
   · left
     rw [e]
     exact ⟨j, by rw [H.dum], e'⟩
   · rw [e]
     dsimp only
     rw [if_neg (show ¬ ((h + 1 == h) = true) from fun q => Int.ne_of_gt (Int.lt_succ h) (eq_of_beq q))]
     have A : At8 (t.advance p) (nx8 j) := by
       unfold SetTable.advance SetTable.leap
       rw [if_neg (by rw [H.more]; exact Nat.lt_irrefl 0), hm, H.i]
       have hz : p.perturb / 32 = 0 := Nat.div_eq_of_lt H.pert
       have hr : ∀ i, SetTable.runEnd 7 i - i = 0 := fun i => by unfold SetTable.runEnd; split <;> omega
       refine ⟨hr _, ?_, ?_, ?_, H.dum⟩
       · show (j * 5 + 1 + p.perturb / 32) % (7 + 1) = nx8 j
         rw [hz, Nat.mul_comm]; rfl
       · show (j * 5 + 1 + p.perturb / 32) % (7 + 1) = nx8 j
         rw [hz, Nat.mul_comm]; rfl
       · show p.perturb / 32 < 32
         rw [hz]; decide
     rcases probe8 hm hd f k (t.advance p) (nx8 j) A with g | g
     · exact .inl g
     · refine .inr fun x hx => ?_
       rcases List.mem_cons.mp hx with rfl | hx
       · exact e'
       · exact g x hx
theorem free8 {byT : Bool} {t : SetTable} {n : Nat} (H : TabP byT t n) (hn : n ≤ 4) {h : Int} (hb : SetTable.bits h < 32) : ∃ j, t.freeSlot h = some (j, false) ∧ (t.place[SetTable.below t.place j]? == some j) = false := by
 have hm := H.few hn
 have A : At8 (t.probeStart h) (SetTable.bits h % 8) := by
   unfold SetTable.probeStart
   rw [hm]
   refine ⟨?_, rfl, rfl, hb, rfl⟩
   show SetTable.runEnd 7 _ - _ = 0
   unfold SetTable.runEnd
   split <;> omega
 unfold SetTable.freeSlot SetTable.probe SetTable.turns
 rw [hm]
 rcases probe8 (h := h) hm H.dum 215 5 _ _ A with ⟨j, g, g'⟩ | g
 · rw [show 10 * (7 + 15) = 215 + 5 from rfl, g]
   exact ⟨j, rfl, g'⟩
 · have := nodup_sub _ _ (orb8_nodup ⟨SetTable.bits h % 8, Nat.mod_lt _ (by decide)⟩) g
   rw [orb8_len, Array.length_toList, H.size] at this
   omega
theorem layNew8 {byT : Bool} {t : SetTable} {es : Array (Int × Value)} (H : TabP byT t es.size) (hn : es.size ≤ 4) {h : Int} (hb : SetTable.bits h < 32) (x : Value) :
   ∃ t', layNew t es h x = ((layNew t es h x).1, t', false, false) ∧ t'.mask = 7 ∧ TabP byT t' (es.size + 1) := by
 obtain ⟨j, hj, hp⟩ := free8 H hn hb
 have hp1 : (SetTable.insertAt t.place (SetTable.below t.place j) j).size = es.size + 1 := by
   rw [← Array.length_toList, (SetTable.insertAt_perm t.place _ j).length_eq, Array.length_toList, Array.size_push, H.size]
 have he1 : (SetTable.insertAt es (SetTable.below t.place j) (h, x)).size = es.size + 1 := by
   rw [← Array.length_toList, (SetTable.insertAt_perm es _ (h, x)).length_eq, Array.length_toList, Array.size_push]
 have hh : SetTable.has (#[] : Array Nat) j = false := rfl
 have hf : SetTable.fits (t.put j).1 (SetTable.insertAt es (t.put j).2 (h, x)).size = true := by
   unfold SetTable.fits SetTable.fill SetTable.put
   dsimp only
   rw [hp1, he1, H.dum, if_neg (by rw [hh]; exact Bool.false_ne_true), H.few hn, beq_self_eq_true, Bool.true_and]
   exact decide_eq_true (Nat.le_trans (Nat.succ_le_succ hn) (by decide))
 refine ⟨(t.put j).1, ?_, H.few hn, ?_⟩
 · unfold layNew
   rw [hj]
   dsimp only
   unfold SetTable.orStandIn
   rw [if_pos hf, hf]
   rfl
 · have hr := rises_put H.rise hp
   refine ⟨H.led, H.plain, ?_, hr, hp1, fun _ => H.few hn⟩
   show (if SetTable.has t.dummies j = true then _ else t.dummies) = #[]
   rw [H.dum, if_neg (by rw [hh]; exact Bool.false_ne_true)]
noncomputable def layF (acc : Option (Array (Option Nat) × Nat)) (h : Int) : Option (Array (Option Nat) × Nat) := do
 let (owner, k) ← acc
 let j ← SetTable.layClean.free 31 owner (SetTable.turns 31) (SetTable.bits h % (31 + 1)) (SetTable.bits h)
 pure (owner.setIfInBounds j (some k), k + 1)
theorem free_own {owner : Array (Option Nat)} {i p f : Nat} (ho : owner.getD i (some 0) = none) : SetTable.layClean.free 31 owner (f + 1) i p = some i := by
 unfold SetTable.layClean.free
 obtain ⟨m, hm⟩ : ∃ m, SetTable.runEnd 31 i + 1 - i = m + 1 := ⟨SetTable.runEnd 31 i - i, Nat.succ_sub (by unfold SetTable.runEnd; split <;> first | exact Nat.le_refl _ | exact Nat.le_add_right _ _)⟩
 rw [hm, List.range_succ_eq_map, List.find?_cons]
 rw [show (Option.isNone (owner.getD (i + 0) (some 0))) = true by rw [Nat.add_zero, ho]; rfl]
 rfl
theorem lay_fold : ∀ (hs : List Int) (owner : Array (Option Nat)) (k : Nat), owner.size = 32 → (∀ h ∈ hs, SetTable.bits h < 32) → (hs.map SetTable.bits).Nodup → (∀ h ∈ hs, owner.getD (SetTable.bits h) (some 0) = none) →
   ∃ owner', hs.foldl layF (some (owner, k)) = some (owner', k + hs.length) ∧ owner'.size = 32 ∧ (∀ i h, hs[i]? = some h → owner'.getD (SetTable.bits h) none = some (k + i)) ∧ ∀ j, (∀ h ∈ hs, SetTable.bits h ≠ j) → owner'.getD j none = owner.getD j none
 | [], owner, k, hz, _, _, _ => ⟨owner, rfl, hz, fun _ _ h => (by simp at h), fun _ _ => rfl⟩
 | h :: hs, owner, k, hz, hb, hn, hf => by
   have b0 := hb h (.head _)
   obtain ⟨n1, n2⟩ := List.nodup_cons.mp (show (SetTable.bits h :: hs.map SetTable.bits).Nodup from hn)
   have hstep : layF (some (owner, k)) h = some (owner.setIfInBounds (SetTable.bits h) (some k), k + 1) := by
     show ((SetTable.layClean.free 31 owner (45 + 1) (SetTable.bits h % 32) (SetTable.bits h)).bind fun j => some (owner.setIfInBounds j (some k), k + 1)) = _
     rw [Nat.mod_eq_of_lt b0, free_own (hf h (.head _))]
     rfl
   have ne : ∀ h' ∈ hs, SetTable.bits h ≠ SetTable.bits h' := fun h' hh e => n1 (List.mem_map.mpr ⟨h', hh, e.symm⟩)
   obtain ⟨o', e, z, a, b⟩ := lay_fold hs (owner.setIfInBounds (SetTable.bits h) (some k)) (k + 1) (by rw [Array.size_setIfInBounds]; exact hz) (fun x hx => hb x (.tail _ hx)) n2 fun h' hh => by
     rw [Array.getD_eq_getD_getElem?, Array.getElem?_setIfInBounds_ne (ne h' hh), ← Array.getD_eq_getD_getElem?]
     exact hf h' (.tail _ hh)
   refine ⟨o', ?_, z, fun i x hx => ?_, fun j hj => ?_⟩
   · rw [List.foldl_cons, hstep, e, List.length_cons, Nat.add_assoc, Nat.add_comm 1]
   · cases i with
     | zero =>
       cases hx
       rw [b _ (fun h' hh e => ne h' hh e.symm), Array.getD_eq_getD_getElem?, Array.getElem?_setIfInBounds_self_of_lt (Nat.lt_of_lt_of_eq b0 (id (Eq.symm hz)))]
       rfl
     | succ i =>
       rw [a i x (by simpa using hx)]
       exact congrArg some (Nat.succ_add_eq_add_succ k i)
   · rw [b j fun h' hh => hj h' (.tail _ hh), Array.getD_eq_getD_getElem?, Array.getElem?_setIfInBounds_ne (hj h (.head _)), ← Array.getD_eq_getD_getElem?]
theorem relay5 {byT : Bool} {t : SetTable} {es : Array (Int × Value)} (H : TabP byT t es.size) (h5 : es.size = 5) (hb : ∀ e ∈ es.toList, SetTable.bits e.1 < 32) (hn : (es.toList.map fun e => SetTable.bits e.1).Nodup) :
   ∃ t', relayAll t es (SetTable.grown es.size) = ((relayAll t es (SetTable.grown es.size)).1, t', false) ∧ t'.mask = 31 ∧ TabP byT t' es.size := by
 obtain ⟨ow, e1, z, a, b⟩ := lay_fold (es.map (·.1)).toList (Array.replicate 32 none) 0 (by simp) (fun h hh => by
     rw [Array.toList_map] at hh
     obtain ⟨e, he, rfl⟩ := List.mem_map.mp hh
     exact hb e he) (by rw [Array.toList_map, List.map_map]; exact hn) (fun h hh => by
     rw [Array.toList_map] at hh
     obtain ⟨e, he, rfl⟩ := List.mem_map.mp hh
     have := hb e he
     rw [Array.getD_eq_getD_getElem?, Array.getElem?_replicate, if_pos this]
     rfl)
 have hc : SetTable.layClean 31 (es.map (·.1)) = some ow := by
   show ((es.map (·.1)).foldl layF (some (Array.replicate 32 none, 0))).map (·.1) = some ow
   rw [← Array.foldl_toList, e1]
   rfl
 have hl5 : (es.map (·.1)).toList.length = 5 := by rw [Array.toList_map, List.length_map, Array.length_toList, h5]
 have allb : ∀ h ∈ (es.map (·.1)).toList, SetTable.bits h < 32 := fun h hh => by
   rw [Array.toList_map] at hh
   obtain ⟨e, he, rfl⟩ := List.mem_map.mp hh
   exact hb e he
 have own : ∀ j k, ow.getD j none = some k → k < 5 ∧ ∃ h, (es.map (·.1)).toList[k]? = some h ∧ SetTable.bits h = j := fun j k hk => by
   by_cases c : ∃ h ∈ (es.map (·.1)).toList, SetTable.bits h = j
   · obtain ⟨h, hh, rfl⟩ := c
     obtain ⟨i, hi, rfl⟩ := List.mem_iff_getElem.mp hh
     have := a i _ (List.getElem?_eq_getElem hi)
     rw [hk, Nat.zero_add] at this
     cases this
     exact ⟨by exact Nat.lt_of_lt_of_eq hi hl5, _, List.getElem?_eq_getElem hi, rfl⟩
   · rw [b j fun h hh e => c ⟨h, hh, e⟩, Array.getD_eq_getD_getElem?, Array.getElem?_replicate] at hk
     split at hk <;> cases hk
 have hs31 : SetTable.sizeAbove (SetTable.grown es.size) - 1 = 31 := by rw [h5]; decide
 let live := (List.range 32).filterMap fun j => (ow.getD j none).map (j, ·)
 have hrl : t.relaid (es.map (·.1)) (SetTable.grown es.size) = some ({ mask := 31, place := (live.map (·.1)).toArray, dummies := #[], finger := t.finger, led := t.led, moves := t.movedTo 31, plain := t.plain }, (live.map (·.2)).toArray) := by
   unfold SetTable.relaid SetTable.laid
   rw [hs31, hc]
   rfl
 have nd : (live.map (·.2)).Nodup := by
   show List.Pairwise _ _
   rw [List.pairwise_map, List.pairwise_filterMap]
   refine List.nodup_range.imp fun {x y} hxy p hp q hq e => hxy ?_
   obtain ⟨k, hk, rfl⟩ := Option.map_eq_some_iff.mp hp
   obtain ⟨k', hk', rfl⟩ := Option.map_eq_some_iff.mp hq
   obtain rfl : k = k' := e
   obtain ⟨_, h, g1, g2⟩ := own x k hk
   obtain ⟨_, h', g1', g2'⟩ := own y k hk'
   rw [g1] at g1'
   cases g1'
   exact g2.symm.trans g2'
 have mem : ∀ k, k ∈ live.map (·.2) ↔ k ∈ List.range 5 := fun k => by
   rw [List.mem_range, List.mem_map]
   constructor
   · rintro ⟨p, hp, rfl⟩
     obtain ⟨j, hj, e⟩ := List.mem_filterMap.mp hp
     obtain ⟨k, hk, rfl⟩ := Option.map_eq_some_iff.mp e
     exact (own j k hk).1
   · intro hk
     have hi : k < (es.map (·.1)).toList.length := by exact Nat.lt_of_lt_of_eq hk (id (Eq.symm hl5))
     have := a k _ (List.getElem?_eq_getElem hi)
     rw [Nat.zero_add] at this
     refine ⟨(_, k), List.mem_filterMap.mpr ⟨SetTable.bits (es.map (·.1)).toList[k], List.mem_range.mpr ?_, by rw [this]; rfl⟩, rfl⟩
     exact allb _ (List.getElem_mem hi)
 have pm : List.Perm (live.map (·.2)) (List.range 5) := (List.perm_ext_iff_of_nodup nd List.nodup_range).mpr mem
 have l5 : live.length = 5 := by rw [← List.length_map (f := (·.2)), pm.length_eq]; rfl
 have cov : coversAll (live.map (·.2)).toArray es.size = true := by
   unfold coversAll
   rw [h5]
   exact List.isPerm_iff.mpr pm
 have sz : ((live.map (·.2)).toArray.filterMap (es[·]?)).size = 5 := by
   rw [← Array.length_toList, Array.toList_filterMap, (pm.filterMap _).length_eq, ← h5, filterMap_getElem?_range, Array.length_toList]
 have fit : SetTable.fits { mask := 31, place := (live.map (·.1)).toArray, dummies := #[], finger := t.finger, led := t.led, moves := t.movedTo 31, plain := t.plain } ((live.map (·.2)).toArray.filterMap (es[·]?)).size = true := by
   unfold SetTable.fits SetTable.fill
   dsimp only
   rw [sz, List.size_toArray, List.length_map, l5]
   rfl
 refine ⟨{ mask := 31, place := (live.map (·.1)).toArray, dummies := #[], finger := t.finger, led := t.led, moves := t.movedTo 31, plain := t.plain }, ?_, rfl, H.led, H.plain, rfl, ?_, ?_, fun h => by omega⟩
 · unfold relayAll
   rw [hrl]
   dsimp only
   rw [if_pos (by rw [cov, fit]; rfl)]
 · show List.Pairwise _ _
   rw [List.pairwise_map, List.pairwise_filterMap]
   refine List.pairwise_lt_range.imp fun {x y} hxy p hp q hq => ?_
   obtain ⟨k, _, rfl⟩ := Option.map_eq_some_iff.mp hp
   obtain ⟨k', _, rfl⟩ := Option.map_eq_some_iff.mp hq
   exact hxy
 · show (live.map (·.1)).toArray.size = es.size
   rw [List.size_toArray, List.length_map, l5, h5]
noncomputable def ival : Value → Int
 | .int n _ => n
 | _ => 0
noncomputable abbrev byTx (w : World) : Bool := w.params.followText "set-order"
noncomputable def keysOf (es : Array (Int × Value)) : List Int := es.toList.map fun e => ival e.2
structure SetI (w : World) (o : Obj) (es : Array (Int × Value)) (ep : Nat) (t : SetTable) : Prop where
 ex : o.ExactSet
 data : o.data = .set es ep t
 el : ElemsOf (intKind PySem.Challenge.rw_wy0029_01.row.prog w) es.toList
 small : ∀ x ∈ keysOf es, 0 ≤ x ∧ x < 27
 nodup : (keysOf es).Nodup
 few : es.size ≤ 5
 tab : TabP (byTx w) t es.size
theorem bits_small : ∀ n : Fin 27, SetTable.bits (hashInt (n.1 : Int)) = n.1 := by decide +kernel
theorem bits_hash {k : Int} (h : 0 ≤ k ∧ k < 27) : SetTable.bits (hashInt k) = k.toNat := by
 have := bits_small ⟨k.toNat, (Int.toNat_lt h.1).mpr h.2⟩
 rw [show ((⟨k.toNat, (Int.toNat_lt h.1).mpr h.2⟩ : Fin 27).1 : Int) = k from Int.toNat_of_nonneg h.1] at this
 exact this
theorem fits_of {byT : Bool} {t : SetTable} {n : Nat} (H : TabP byT t n) (hn : n ≤ 5) (hm : t.mask = 7 ∨ t.mask = 31) : t.fits n = true := by
 unfold SetTable.fits SetTable.fill
 rw [H.size, H.dum, beq_self_eq_true, Bool.true_and]
 refine decide_eq_true ?_
 show n + 0 ≤ t.mask
 omega
section
variable {w : World}
theorem el_int {es : List (Int × Value)} (h : ElemsOf (intKind PySem.Challenge.rw_wy0029_01.row.prog w) es) {e : Int × Value} (he : e ∈ es) : (∃ u, e.2 = .int (ival e.2) u) ∧ e.1 = hashInt (ival e.2) := by
 obtain ⟨⟨k, hk, hh⟩, _⟩ := h e he
 obtain ⟨u, hu⟩ := Value.isInt_shape hk
 rw [hu]
 exact ⟨⟨u, rfl⟩, hh⟩
theorem el_bits {es : Array (Int × Value)} (h : ElemsOf (intKind PySem.Challenge.rw_wy0029_01.row.prog w) es.toList) (hs : ∀ x ∈ keysOf es, 0 ≤ x ∧ x < 27) {e : Int × Value} (he : e ∈ es.toList) : SetTable.bits e.1 = (ival e.2).toNat := by
 rw [(el_int h he).2]
 exact bits_hash (hs _ (List.mem_map.mpr ⟨e, he, rfl⟩))
theorem el_nodup {es : Array (Int × Value)} (h : ElemsOf (intKind PySem.Challenge.rw_wy0029_01.row.prog w) es.toList) (hs : ∀ x ∈ keysOf es, 0 ≤ x ∧ x < 27) (hn : (keysOf es).Nodup) : (es.toList.map fun e => SetTable.bits e.1).Nodup := by
 have e : (es.toList.map fun e => SetTable.bits e.1) = (keysOf es).map Int.toNat := by
   unfold keysOf
   rw [List.map_map]
   exact List.map_congr_left fun e he => el_bits h hs he
 rw [e]
 show List.Pairwise _ _
 rw [List.pairwise_map]
 refine List.Pairwise.imp_of_mem (fun {x y} hx hy hxy q => hxy ?_) hn
 exact (Int.toNat_of_nonneg (hs x hx).1).symm.trans ((congrArg Int.ofNat q).trans (Int.toNat_of_nonneg (hs y hy).1))
variable {A : Around} {s : Shared} {E : Value → Shared → Prop}
structure SetF (w : World) (o : Obj) (es : Array (Int × Value)) (ep : Nat) (t : SetTable) : Prop extends SetI w o es ep t where
 mask : t.mask = 7 ∨ t.mask = 31
theorem SetF.fits {o : Obj} {es : Array (Int × Value)} {ep : Nat} {t : SetTable} (H : SetF w o es ep t) : t.fits es.size = true := fits_of H.tab H.few H.mask
theorem keys_perm {es es' : Array (Int × Value)} (p : List.Perm es'.toList es.toList) : List.Perm (keysOf es') (keysOf es) := p.map _
theorem set_addH {a : Addr} {o : Obj} {es : Array (Int × Value)} {ep : Nat} {t : SetTable} {k : Int} {u : Tok} (ho : s.heap.get? a = some o) (H : SetF w o es ep t) (hk : 0 ≤ k ∧ k < 27) (hr : es.size ≤ 4) {Q : Bool → Shared → Prop}
   (h : ∀ b h' o' es' ep' t', Heap.SameBut a s.heap h' → h'.get? a = some o' → SetF w o' es' ep' t' → (∀ x, x ∈ keysOf es' ↔ x = k ∨ x ∈ keysOf es) → es'.size ≤ es.size + 1 → Q b { s with heap := h' }) :
   wpAny (model PySem.Challenge.rw_wy0029_01.row.prog w) A (setAddHashed a (.int k u) (hashInt k)) Q E s := by
 have hsz := H.few
 have hel := H.el
 have hf := H.fits
 have hkey : (intKind PySem.Challenge.rw_wy0029_01.row.prog w).is k (.int k u) = true := intKind_is _ _ _ _
 have hsb : es.size < scanBound := by unfold scanBound; exact Nat.lt_of_le_of_lt hr (by decide)
 unfold setAddHashed setAddHashedIn
 refine wpAny_holding (wpAny_bind (wpAny_setState_of ho H.data hf ?_))
 dsimp only
 rw [byScan_of (x := .int k u) rfl hsb hel]
 simp only [↓reduceIte]
 unfold setAddByScan
 refine wpAny_bind ?_
 refine wpAny_bind (wpAny_rule ?_)
 refine wpAny_bind (wpAny_setScan_of (knd := intKind PySem.Challenge.rw_wy0029_01.row.prog w) hkey ho H.data hf hel ?_)
 cases hr : List.findIdx? (fun e => (intKind PySem.Challenge.rw_wy0029_01.row.prog w).is k e.2) es.toList with
 | some j =>
   dsimp only
   obtain ⟨hj, hpj, _⟩ := List.findIdx?_eq_some_iff_getElem.mp hr
   refine wpAny_pure (wpAny_pure ?_)
   refine h _ s.heap o es ep t (Heap.SameBut.refl a s.heap) ho H (fun x => ⟨.inr, fun hx => hx.elim (fun e => ?_) id⟩) (Nat.le_succ _)
   obtain ⟨v, hv⟩ := Value.isInt_shape hpj
   exact List.mem_map.mpr ⟨_, List.getElem_mem hj, by rw [hv, e]; rfl⟩
 | none =>
   dsimp only
   have hnk : k ∉ keysOf es := fun hm => by
     obtain ⟨e, he, q⟩ := List.mem_map.mp hm
     obtain ⟨⟨v, hv⟩, _⟩ := el_int hel he
     have := List.findIdx?_eq_none_iff.mp hr e he
     rw [hv, q, intKind_is] at this
     cases this
   refine x1a3 (layNew8 H.tab (by assumption) (h := hashInt k) (by rw [bits_hash hk]; exact (Int.toNat_lt hk.1).mpr (Int.lt_trans hk.2 (by decide))) (.int k u)) ?_; rintro t1 eL hm1 T1
   have hperm := layNew_perm t es (hashInt k) (.int k u)
   generalize (layNew t es (hashInt k) (.int k u)).1 = es1 at eL hperm
   rw [eL]
   dsimp only
   rw [Array.toList_push] at hperm
   have z1 : es1.size = es.size + 1 := by rw [← Array.length_toList, hperm.length_eq, List.length_append, Array.length_toList]; rfl
   have hel1 : ElemsOf (intKind PySem.Challenge.rw_wy0029_01.row.prog w) es1.toList := (ElemsOf.push hel hkey rfl).perm hperm
   have hk1 : List.Perm (keysOf es1) (keysOf es ++ [k]) := by
     have := hperm.map fun e => ival e.2
     rw [List.map_append] at this
     exact this
   have mem1 : ∀ x, x ∈ keysOf es1 ↔ x = k ∨ x ∈ keysOf es := fun x => by
     rw [hk1.mem_iff, List.mem_append, List.mem_singleton]
     exact Or.comm
   have nd1 : (keysOf es1).Nodup := by
     refine (List.nodup_append.mpr ⟨H.nodup, (by simp), fun x hx y hy e => ?_⟩).perm hk1.symm
     rw [List.mem_singleton.mp hy] at e
     exact hnk (e ▸ hx)
   have sm1 : ∀ x ∈ keysOf es1, 0 ≤ x ∧ x < 27 := fun x hx => ((mem1 x).mp hx).elim (fun e => e ▸ hk) (H.small x)
   rw [← z1] at T1
   have fl : t1.fill = es1.size := by
     unfold SetTable.fill
     rw [T1.size, T1.dum]
     rfl
   refine wpAny_bind (wpAny_pure ?_)
   rw [if_pos T1.plain]
   refine wpAny_bind ?_
   show wpAny _ _ (pure true) _ _ _
   refine wpAny_pure ?_
   simp only [↓reduceIte]
   refine wpAny_bind (wpAny_storeSet_of ho H.data ?_ (by rw [sizeLine_eq]; omega))
   have ho1 : (s.heap.update a (Obj.putSet es1 t1)).get? a = some { o with data := .set es1 (ep + 1) t1 } := by
     have := Heap.get?_update_self (Obj.putSet es1 t1) ho (by rw [putSet_of es1 t1 H.data]; rfl)
     rwa [putSet_of es1 t1 H.data] at this
   have sb1 := Heap.SameBut.update s.heap a (Obj.putSet es1 t1)
   by_cases c : es1.size = 5
   · refine x1a3 (relay5 T1 c (fun e he => by rw [el_bits hel1 sm1 he]; have z := sm1 _ (List.mem_map.mpr ⟨e, he, rfl⟩); exact (Int.toNat_lt z.1).mpr (Int.lt_trans z.2 (by decide))) (el_nodup hel1 sm1 nd1)) ?_; rintro t2 eR m2 T2
     have hp2 := relayAll_perm t1 es1 (SetTable.grown es1.size)
     generalize (relayAll t1 es1 (SetTable.grown es1.size)).1 = es2 at eR hp2
     have z2 : es2.size = es1.size := by rw [← Array.length_toList, hp2.length_eq, Array.length_toList]
     have full : (!false && t1.tooFull) = true := by
       unfold SetTable.tooFull
       rw [fl, hm1, c]
       rfl
     rw [if_pos full, eR]
     dsimp only
     refine wpAny_bind (wpAny_pure ?_)
     refine wpAny_bind (wpAny_storeSet_of ho1 rfl ?_ (by rw [sizeLine_eq]; omega))
     have ho2 := Heap.get?_update_self (Obj.putSet es2 t2) ho1 (by rw [putSet_of es2 t2 rfl]; rfl)
     rw [putSet_of es2 t2 rfl] at ho2
     have k2 := keys_perm hp2
     refine wpAny_pure (wpAny_pure ?_)
     exact h _ _ _ es2 (ep + 2) t2 (sb1.trans (Heap.SameBut.update _ a _)) ho2
       ⟨⟨H.ex, rfl, hel1.perm hp2, fun x hx => sm1 x (k2.mem_iff.mp hx), nd1.perm k2.symm, by omega, z2.symm ▸ T2⟩, by right; exact m2⟩ (fun x => (k2.mem_iff).trans (mem1 x)) (by omega)
   · have full : ¬ (!false && t1.tooFull) = true := by
       unfold SetTable.tooFull
       rw [fl, hm1]
       simp only [Bool.not_false, Bool.true_and, decide_eq_true_eq]
       omega
     rw [if_neg full]
     refine wpAny_pure (wpAny_pure ?_)
     exact h _ _ _ es1 (ep + 1) t1 sb1 ho1 ⟨⟨H.ex, rfl, hel1, sm1, nd1, by omega, T1⟩, .inl hm1⟩ mem1 (Nat.le_of_eq z1)
end
end
section
section
variable {w : World} {A : Around} {s : Shared} {E : Value → Shared → Prop}
theorem set_call {a : Addr} {o : Obj} {es : Array (Int × Value)} {ep : Nat} {t : SetTable} {k : Int} {u : Tok} (ho : s.heap.get? a = some o) (H : SetF w o es ep t) (hk : 0 ≤ k ∧ k < 27) (hr : es.size ≤ 4) {Q : Value → Shared → Prop}
   (h : ∀ h' o' es' ep' t', Heap.SameBut a s.heap h' → h'.get? a = some o' → SetF w o' es' ep' t' → (∀ x, x ∈ keysOf es' ↔ x = k ∨ x ∈ keysOf es) → es'.size ≤ es.size + 1 → Q .none { s with heap := h', toks := s.toks + 1 }) :
   wpAny (model PySem.Challenge.rw_wy0029_01.row.prog w) A (call (.builtin "set.add") [.ref a, .int k u]) Q E s := by
 have hT : s.TypeIs (.ref a) "set" := ⟨o, ho, H.ex.1⟩
 have hkey : (intKind PySem.Challenge.rw_wy0029_01.row.prog w).is k (.int k u) = true := intKind_is _ _ _ _
 refine wpAny_call_entry F.slot_set_add hT F.entry_set_add ?_ (F.args_set_add_2 _ _)
 unfold Builtin.«set.add» Builtin.Frozenset.oneOther
 simp only [List.isEmpty_nil, bind_assoc]
 unfold Builtin.Frozenset.addrOf setAdd
 refine wpAny_bind (wpAny_pure ?_)
 refine wpAny_bind (wpAny_pure ?_)
 dsimp only
 refine wpAny_bind ?_
 refine wpAny_holding ?_
 refine wpAny_bind ((intKind PySem.Challenge.rw_wy0029_01.row.prog w).pyHash hkey ?_)
 refine set_addH (s := { s with toks := s.toks + 1 }) ho H hk hr fun b h' o' es' ep' t' sb g1 g2 g3 g4 => ?_
 show wpAny _ _ (ret Value.none) _ _ _
 exact wpAny_pure ⟨_, rfl, h h' o' es' ep' t' sb g1 g2 g3 g4⟩
variable {h₀ : Heap} {env : Env} {L I : Addr} {n : Nat} {ow : List Addr} {P : Nat → Value → List (Addr × Obj) → Nat → Nat → Prop} {O : Nat → List (Addr × Obj) → Prop} {m : Str → Option Value}
 {y : Str} {py pos : Pos} {elt iter : Expr} {scope : Scope} {cl : List (Str × Addr)}
theorem compTurnS (it acc : Value) (target : Expr) : compTurn (.SetComp elt [⟨target, iter, [], 0⟩] scope pos) 0 it acc env = (do
     standAt iter.pos
     match ← pyNext it with
     | none => pure (.done .next)
     | some v =>
       letOwnedTupleGo target it v
       assign target env v
       (do let v ← eval elt env; standAt elt.pos; let _ ← call (.builtin "set.add") [acc, v])
       again (.compLoop (.SetComp elt [⟨target, iter, [], 0⟩] scope pos) 0 it acc env)) := by
 unfold compTurn
 rfl
inductive SetSt (w : World) (h₀ : Heap) (L : Addr) (m : Str → Option Value) (s : Shared) (C D : Addr) (ow : List Addr) (O : Nat → List (Addr × Obj) → Prop) (f : Nat → Int) (news : List (Addr × Obj)) (i : Nat) (s' : Shared) : Prop
 | mk (h' : Heap) (tk : Nat) (oC so : Obj) (m₂ : Str → Option Value) (o : List (Addr × Obj)) (es : Array (Int × Value)) (ep : Nat) (t : SetTable) (e : s' = { s with heap := h', toks := tk }) (hO : O i o) (hC : LCg.NsObj oC m₂) (F : Fr h₀ L h' m) (N : News h₀ L h' (o ++ ((C, oC) :: (D, so) :: news)))
   (H : SetF w so es ep t) (hm : ∀ x, x ∈ keysOf es ↔ ∃ j, j < i ∧ x = f j) (hz : es.size ≤ i) : SetSt w h₀ L m s C D ow O f news i s'
theorem zset_loop {C D : Addr} {news : List (Addr × Obj)} {R : Result → Shared → Prop} {s0 : Shared} (S : Src PySem.Challenge.rw_wy0029_01.row.prog w A (.Name y py) I n ow [] P O) (hP : ∀ i v x t u, P i v x t u → x = []) (f : Nat → Int) (hf : ∀ i, i < n → 0 ≤ f i ∧ f i < 27) (hn : n ≤ 5)
   (hkind : scope.kind = .function) (hnm : scope.names.lookup y = some .local) (hCD : C ≠ D) (hCw : C ∉ ow) (hDw : D ∉ ow) (hoff : ∀ p ∈ news, p.1 ∉ C :: D :: ow)
   (step : ∀ i v t₀ t₁ (m₂ : Str → Option Value) oC so o h₁ tk₁, i < n → P i v [] t₀ t₁ → LCg.NsObj oC (fun z => if z = y then some v else m₂ z) → Fr h₀ L h₁ m → News h₀ L h₁ ((C, oC) :: (D, so) :: (o ++ news)) →
     wpAny (model PySem.Challenge.rw_wy0029_01.row.prog w) A (eval elt (compEnvC scope cl C env)) (fun r s₄ => ∃ tk u, r = .int (f i) u ∧ s₄ = { s with heap := h₁, toks := tk }) (fun _ _ => False) { s with heap := h₁, toks := tk₁ })
   (done : ∀ h' tk oC so m₂ es ep t, LCg.NsObj oC m₂ → Fr h₀ L h' m → News h₀ L h' ((C, oC) :: (D, so) :: news) → SetF w so es ep t → (∀ x, x ∈ keysOf es ↔ ∃ j, j < n ∧ x = f j) → R (.ok .next) { s with heap := h', toks := tk })
   (h0 : SetSt w h₀ L m s C D ow O f news 0 s0) :
   codeAny (model PySem.Challenge.rw_wy0029_01.row.prog w) A (.compLoop (.SetComp elt [⟨.Name y py, iter, [], 0⟩] scope pos) 0 (.ref I) (.ref D) (compEnvC scope cl C env)) R s0 := by
 have offs : ∀ {oC oD : Obj}, ∀ p ∈ (C, oC) :: (D, oD) :: news, p.1 ∉ ow := fun p hp => by
   rcases List.mem_cons.mp hp with rfl | hp
   · exact hCw
   · rcases List.mem_cons.mp hp with rfl | hp
     · exact hDw
     · exact fun hx => hoff p hp (.tail _ (.tail _ hx))
 refine codeAny_loop rfl (fun k s' => ∃ i, i ≤ n ∧ k = n + 1 - i ∧ SetSt w h₀ L m s C D ow O f news i s') (fun k s' hI => ?_) (n + 1) ⟨0, Nat.zero_le _, rfl, h0⟩
 obtain ⟨i, hi, rfl, h', tk, oC, so, m₂, o, es, ep, t, rfl, hO, hC, F, N, H, hm, hz⟩ := hI
 show wpAny _ A ((compTurn (.SetComp elt [⟨.Name y py, iter, [], 0⟩] scope pos) 0 (.ref I) (.ref D) (compEnvC scope cl C env)).onRaise (fun x => do noteFrame x (compEnvC scope cl C env); theTreesLotGoes x)) _ _ _
 refine wpAny_noted ?_
 rw [compTurnS]
 refine wpAny_bind (wpAny_standAt (wpAny_bind ?_))
 by_cases hlt : i < n
 · refine wpAny_mono (S.item i o _ h₀ L m _ (fun v s₂ => wpAny (model PySem.Challenge.rw_wy0029_01.row.prog w) A (assign (.Name y py) (compEnvC scope cl C env) v) (fun _ s₂ =>
         wpAny (model PySem.Challenge.rw_wy0029_01.row.prog w) A (eval elt (compEnvC scope cl C env)) (fun r s₄ => wpAny (model PySem.Challenge.rw_wy0029_01.row.prog w) A (call (.builtin "set.add") [.ref D, r]) (fun _ s₅ => SetSt w h₀ L m s C D ow O f news (i + 1) s₅) (fun _ _ => False) s₄) (fun _ _ => False) s₂) (fun _ _ => False) s₂) (fun _ _ => False) hO hlt (fun _ h => nomatch h) offs F N ?_) (fun r s₁ h₁ => ?_) fun _ _ e => e.elim
   · intro v x o₂ h₂ tk₂ hPv hO₂ _ F₂ N₂
     obtain rfl := hP _ _ _ _ _ hPv
     rw [List.nil_append] at N₂
     have own₂ := S.own _ _ hO₂
     have mC := List.mem_append_right o₂ (List.mem_cons_self (a := (C, oC)) (l := (D, so) :: news))
     have mD := List.mem_append_right o₂ (List.mem_cons_of_mem (C, oC) (List.mem_cons_self (a := (D, so)) (l := news)))
     refine wpAny_assign_Name (wpAny_storeName_local (lookup_relabel_local hnm) (hC.ns (N₂ _ mC).1) (fun h₃ hn₃ hs₃ => ?_) (by simp [compEnvC, relabel, hkind]))
     obtain ⟨oC₃, eC₃, hoC₃⟩ := LCg.ns_obj hn₃
     have C₀ : C ≠ L ∧ h₀.get? C = none := (N₂ _ mC).2
     have up : ∀ b ob, b ≠ C → h₂.get? b = some ob → h₃.get? b = some ob := fun b ob hb e => hs₃.extBut b ob hb e
     have zD := N₂ _ mD
     have N₃ : News h₀ L h₃ ((C, oC₃) :: (D, so) :: (o₂ ++ news)) := zc_news (x := []) N₂ up eC₃ hCD (fun _ h => nomatch h) (fun p hp e => hCw (e ▸ own₂ p hp)) fun p hp e => hoff p hp (e ▸ .head _)
     have F₃ : Fr h₀ L h₃ m := fr_but F₂ up C₀.1 C₀.2
     refine wpAny_mono (step i v _ _ m₂ oC₃ so o₂ h₃ _ hlt hPv hoC₃ F₃ N₃) (fun r s₄ h₄ => ?_) fun _ _ e => e
     refine x2a2 h₄ ?_; clear h₄; rintro tk₄ u rfl rfl
     have yD := N₃ (D, so) (.tail _ (.head _))
     refine set_call yD.1 H (hf i hlt) (by omega) fun h₅ so' es' ep' t' sb g1 g2 g3 g4 => ?_
     have up5 : ∀ b ob, b ≠ D → h₃.get? b = some ob → h₅.get? b = some ob := fun b ob hb e => sb.extBut b ob hb e
     have k5 : ∀ p ∈ (C, oC₃) :: (D, so) :: (o₂ ++ news), p.1 ≠ D → h₅.get? p.1 = some p.2 ∧ p.1 ≠ L ∧ h₀.get? p.1 = none := fun p hp hd => ⟨up5 _ _ hd (N₃ p hp).1, (N₃ p hp).2⟩
     refine ⟨h₅, _, oC₃, so', _, o₂, es', ep', t', rfl, hO₂, hoC₃, fr_but F₃ up5 yD.2.1 yD.2.2, fun p hp => (List.mem_append.mp hp).elim (fun hp => k5 p (.tail _ (.tail _ (List.mem_append_left _ hp))) fun e => hDw (e ▸ own₂ p hp)) fun hp => (List.mem_cons.mp hp).elim (fun e => e ▸ k5 _ (.head _) hCD) fun hp => (List.mem_cons.mp hp).elim (fun e => e ▸ ⟨g1, yD.2⟩) fun hp => k5 p (.tail _ (.tail _ (List.mem_append_right _ hp))) fun e => hoff p hp (e ▸ .tail _ (.head _)), g2, fun x => ?_, by omega⟩
     · rw [g3, hm]
       constructor
       · rintro (rfl | ⟨j, hj, rfl⟩)
         · exact ⟨i, Nat.lt_succ_self _, rfl⟩
         · exact ⟨j, Nat.lt_succ_of_lt hj, rfl⟩
       · rintro ⟨j, hj, rfl⟩
         rcases Nat.lt_or_ge j i with c | c
         · exact .inr ⟨j, c, rfl⟩
         · exact .inl (by rw [Nat.eq_of_le_of_lt_succ c hj])
   · obtain ⟨v, rfl, h₁⟩ := h₁
     refine wpAny_bind (wpAny_mono h₁ (fun _ s₂ h₂ => ?_) fun _ _ h' => h'.elim)
     refine wpAny_bind (wpAny_mono h₂ (fun _ s₂ h₂ => ?_) fun _ _ h' => h'.elim)
     refine wpAny_bind (wpAny_bind (wpAny_mono h₂ (fun r s₄ h₄ => wpAny_bind (wpAny_standAt (wpAny_bind (wpAny_mono h₄ (fun _ s₅ h₅ => wpAny_pure (wpAny_pure ⟨rfl, ?_⟩)) fun _ _ h' => h'.elim)))) fun _ _ h' => h'.elim))
     exact ⟨n + 1 - (i + 1), Nat.sub_lt_sub_left (Nat.lt_succ_of_lt hlt) (Nat.lt_succ_self _), i + 1, hlt, rfl, h₅⟩
 · obtain rfl : i = n := by omega
   refine S.done o _ h₀ L m _ _ _ hO (fun _ h => nomatch h) offs F N fun h₁ tk₁ F₁ N₁ => ?_
   exact wpAny_pure (done h₁ tk₁ oC so m₂ es ep t hC F₁ N₁ H hm)
end
section
variable {w : World} {A : Around} {s : Shared} {E : Value → Shared → Prop} {h₀ : Heap} {env : Env} {L I : Addr} {n : Nat} {ow : List Addr} {P : Nat → Value → List (Addr × Obj) → Nat → Nat → Prop} {O : Nat → List (Addr × Obj) → Prop} {m : Str → Option Value}
 {y : Str} {py pos : Pos} {elt iter : Expr} {scope : Scope} {cl : List (Str × Addr)}
theorem zcsS {R : Result → Shared → Prop} {it acc : Value} {target : Expr} (h0 : codeAny (model PySem.Challenge.rw_wy0029_01.row.prog w) A (.compLoop (.SetComp elt [⟨target, iter, [], 0⟩] scope pos) 0 it acc env) R s)
   (h : wpAny (model PySem.Challenge.rw_wy0029_01.row.prog w) A (pyIter it) (fun it' s' => codeAny (model PySem.Challenge.rw_wy0029_01.row.prog w) A (.compLoop (.SetComp elt [⟨target, iter, [], 0⟩] scope pos) 0 it' acc env) R s') (fun _ _ => False) s) :
   codeAny (model PySem.Challenge.rw_wy0029_01.row.prog w) A (.compStart (.SetComp elt [⟨target, iter, [], 0⟩] scope pos) 0 it acc env) R s := by
 refine codeAny_of_tree ?_
 show wpAny _ _ ((compStart (.SetComp elt [⟨target, iter, [], 0⟩] scope pos) 0 it acc env).onRaise (fun x => do noteFrame x env; standAt theWindowsPlace)) _ _ s
 refine wpAny_notedAt ?_
 unfold compStart
 rw [show (clausesOf (.SetComp elt [⟨target, iter, [], 0⟩] scope pos))[0]? = some ⟨target, iter, [], 0⟩ from rfl]
 show wpAny _ _ (ask >>= _) _ _ s
 refine wpAny_bind (wpAny_askSetting (wpAny_ite ?_))
 split
 · first
     | exact wpAny_bind (wpAny_pure (wpAny_pure (And.intro rfl h0)))
     | exact wpAny_pure (And.intro rfl h0)
 · refine wpAny_bind (wpAny_rule ?_)
   show wpAny _ _ (standAt iter.pos >>= _) _ _ s
   exact wpAny_bind (wpAny_standAt (wpAny_bind (wpAny_mono h (fun it' s' h' => wpAny_pure (And.intro rfl h')) fun _ _ x => x.elim)))
noncomputable def SStart (w : World) (A : Around) (h₀ : Heap) (L : Addr) (m : Str → Option Value) (env : Env) (elt : Expr) (g : Comprehension) (scope : Scope) (cl : List (Str × Addr)) (pos : Pos) (Fin : Addr → List (Addr × Obj) → Shared → Prop) (it : Value) (s₂ : Shared) : Prop :=
 ∃ news, Fr h₀ L s₂.heap m ∧ News h₀ L s₂.heap news ∧ ∀ C oC D so t h₁ tk₁, C ≠ D → (∀ p ∈ news, p.1 ≠ C ∧ p.1 ≠ D) → LCg.NsObj oC (fun _ => none) → SetF w so #[] 0 t → Fr h₀ L h₁ m → News h₀ L h₁ ((C, oC) :: (D, so) :: news) →
   codeAny (model PySem.Challenge.rw_wy0029_01.row.prog w) A (.compStart (.SetComp elt [g] scope pos) 0 it (.ref D) (compEnvC scope cl C env)) (CEnd h₀ L m C s₂ (fun news' => Fin D news' s₂)) { s₂ with heap := h₁, toks := tk₁ }
theorem setF_new {b : Bool} (hb : byTx w = false → b = true) : SetF w { cls := .type "set", dict := none, data := .set #[] 0 (.fresh 0 0 b) } #[] 0 (.fresh 0 0 b) :=
 ⟨⟨⟨rfl, rfl, rfl⟩, rfl, (fun _ h => nomatch h), (fun _ h => nomatch h), List.Pairwise.nil, Nat.zero_le _, ⟨hb, rfl, rfl, List.Pairwise.nil, rfl, fun _ => rfl⟩⟩, .inl rfl⟩
theorem zset {Q : Value → Shared → Prop} (_ : Fr h₀ L s.heap m)
   (hclos : closureFor scope env = pure cl) (hcell : ∀ y ∈ scope.names, y.2 ≠ .cell) (hkind : scope.kind = .function) (hnames : ∀ y ∈ scope.names, y.2 = .local → scope.names.lookup y.1 = some .local)
   (h : wpAny (model PySem.Challenge.rw_wy0029_01.row.prog w) A (eval iter env) (fun xv s₁ => wpAny (model PySem.Challenge.rw_wy0029_01.row.prog w) A (pyIter xv) (SStart w A h₀ L m env elt ⟨.Name y py, iter, [], 0⟩ scope cl pos (fun D news s₂ => ∀ h' tk, Fr h₀ L h' m → News h₀ L h' news → Q (.ref D) { s₂ with heap := h', toks := tk })) E s₁) E s)
   (hs : ∀ x, foldedSetIterable iter env x = pure x := by intro _; rfl) :
   wpAny (model PySem.Challenge.rw_wy0029_01.row.prog w) A (eval (.SetComp elt [⟨.Name y py, iter, [], 0⟩] scope pos) env) Q E s := by
 rw [arm_eval_SetComp]
 dsimp only
 refine wpAny_comprehension_free (use := none) rfl hs hclos hkind hnames (wpAny_mono h (fun xv s₁ h₁ => wpAny_mono h₁ (fun it s₂ h₂ => ?_) fun _ _ e => e) fun _ _ e => e)
 clear h h₁
 refine x1a3 h₂ ?_; clear h₂; rintro news F N h
 unfold newSet setsByText
 refine wpAny_bind (wpAny_bind (wpAny_askSetting (wpAny_pure ?_)))
 dsimp only
 refine wpAny_newObj_type (wpAny_newFunctionEnv hcell (by intro y hy; simp at hy) (fun h₁ hns₁ hsb₁ => ?_) hkind)
 have HF : SetF w _ #[] 0 _ := setF_new (w := w) (b := !(model PySem.Challenge.rw_wy0029_01.row.prog w).w.params.followText "set-order") fun e => by
   rw [show (model PySem.Challenge.rw_wy0029_01.row.prog w).w.params.followText "set-order" = false from e]; rfl
 dsimp only at hns₁ hsb₁ ⊢
 generalize (SetTable.fresh 0 0 (!(model PySem.Challenge.rw_wy0029_01.row.prog w).w.params.followText "set-order")) = tb at HF hns₁ hsb₁ ⊢
 generalize hso : ({ cls := .type "set", dict := none, data := .set #[] 0 tb } : Obj) = so at HF hns₁ hsb₁ ⊢
 generalize hH2 : s₂.heap.push so = H2 at hns₁ hsb₁ ⊢
 have hC : H2.objs.size = s₂.heap.objs.size + 1 := by rw [← hH2, Heap.size_push]
 have hDC : s₂.heap.objs.size ≠ H2.objs.size := by rw [hC]; exact Nat.ne_of_lt (Nat.lt_succ_self _)
 have below : ∀ b, b < s₂.heap.objs.size → b ≠ H2.objs.size ∧ b ≠ s₂.heap.objs.size := fun b hb => ⟨by rw [hC]; exact Nat.ne_of_lt (Nat.lt_succ_of_lt hb), Nat.ne_of_lt hb⟩
 have old : ∀ b o, s₂.heap.get? b = some o → h₁.get? b = some o := fun b o e => hsb₁.extBut b o (below b (Heap.lt_size e)).1 (Heap.get?_push_of_some _ (hH2 ▸ Heap.get?_push_of_some _ e))
 have hacc : h₁.get? s₂.heap.objs.size = some so := hsb₁.extBut _ _ hDC (Heap.get?_push_of_some _ (hH2 ▸ Heap.get?_push_size _ (by rw [← hso]; rfl)))
 have fresh₀ : ∀ a, s₂.heap.objs.size ≤ a → h₀.get? a = none := fun a ha => by
   cases e : h₀.get? a with
   | none => rfl
   | some o' => exact absurd (Heap.lt_size (F.keep a o' e)) (Nat.not_lt.mpr ha)
 have hD₀ : h₀.get? s₂.heap.objs.size = none := fresh₀ _ (Nat.le_refl _)
 have hC₀ : h₀.get? H2.objs.size = none := fresh₀ _ (by rw [hC]; exact Nat.le_succ _)
 have hLlt : L < s₂.heap.objs.size := F.ns.lt
 obtain ⟨oC, eC, hoC⟩ := LCg.ns_obj hns₁
 refine codeAny_mono (h H2.objs.size oC s₂.heap.objs.size so tb h₁ _ (Ne.symm hDC) (fun p hp => below _ (Heap.lt_size (N p hp).1)) hoC HF (F.keeps old) fun p hp => ?_) fun r s' hr => ?_
 · rcases List.mem_cons.mp hp with rfl | hp
   · exact ⟨eC, Ne.symm (below L hLlt).1, hC₀⟩
   · rcases List.mem_cons.mp hp with rfl | hp
     · exact ⟨hacc, Ne.symm (below L hLlt).2, hD₀⟩
     · exact ⟨old _ _ (N p hp).1, (N p hp).2⟩
 · obtain ⟨f, h', tk, oC, m₂, news, rfl, rfl, hC, F, N, ho, fin⟩ := hr
   have zC := N (H2.objs.size, oC) (.head _)
   refine ⟨m₂, hC.ns zC.1, fun h'' hs'' => fin h'' tk ?_ fun p hp => ?_⟩
   · exact ⟨F.ns.at' fun o e => hs''.extBut _ o (Ne.symm zC.2.1) e, fun b o e => hs''.extBut b o (fun q => absurd (e.symm.trans ((congrArg h₀.get? q).trans zC.2.2)) (fun z => nomatch z)) (F.keep b o e), F.above⟩
   · exact ⟨hs''.extBut _ _ (ho p hp) (N p (.tail _ hp)).1, (N p (.tail _ hp)).2⟩
theorem zset1 {news o : List (Addr × Obj)} {Fin : Addr → List (Addr × Obj) → Shared → Prop} (S : Src PySem.Challenge.rw_wy0029_01.row.prog w A (.Name y py) I n ow [] P O) (hP : ∀ i v x t u, P i v x t u → x = []) (f : Nat → Int) (hf : ∀ i, i < n → 0 ≤ f i ∧ f i < 27) (hn : n ≤ 5)
   (hkind : scope.kind = .function) (hnm : scope.names.lookup y = some .local) (F : Fr h₀ L s.heap m) (N : News h₀ L s.heap (o ++ news)) (hO : O 0 o) (hoff : ∀ p ∈ news, p.1 ∉ ow)
   (step : ∀ C D i v t₀ t₁ (m₂ : Str → Option Value) oC so o h₁ tk₁, i < n → P i v [] t₀ t₁ → LCg.NsObj oC (fun z => if z = y then some v else m₂ z) → Fr h₀ L h₁ m → News h₀ L h₁ ((C, oC) :: (D, so) :: (o ++ news)) →
     wpAny (model PySem.Challenge.rw_wy0029_01.row.prog w) A (eval elt (compEnvC scope cl C env)) (fun r s₄ => ∃ tk u, r = .int (f i) u ∧ s₄ = { s with heap := h₁, toks := tk }) (fun _ _ => False) { s with heap := h₁, toks := tk₁ })
   (done : ∀ D so es ep t, (∀ p ∈ news, p.1 ≠ D) → SetF w so es ep t → (∀ x, x ∈ keysOf es ↔ ∃ j, j < n ∧ x = f j) → Fin D ((D, so) :: news) s) :
   SStart w A h₀ L m env elt ⟨.Name y py, iter, [], 0⟩ scope cl pos Fin (.ref I) s := by
 refine ⟨_, F, N, fun C oC D so t h₁ tk₁ hCD hap hC HF F₁ N₁ => ?_⟩
 have ap : ∀ a ∈ ow, a ≠ C ∧ a ≠ D := fun a ha => by
   obtain ⟨ob, hm⟩ := S.live _ _ hO a ha
   exact hap _ (List.mem_append_left _ hm)
 have off2 : ∀ p ∈ news, p.1 ∉ C :: D :: ow := fun p hp hm => by
   have := hap p (List.mem_append_right _ hp)
   rcases List.mem_cons.mp hm with e | hm
   · exact this.1 e
   · rcases List.mem_cons.mp hm with e | hm
     · exact this.2 e
     · exact hoff p hp hm
 have perm : News h₀ L h₁ (o ++ ((C, oC) :: (D, so) :: news)) := sbn N₁ (by repeat' (first | exact sb0 | exact sbs | refine sbc ?_ ?_ | refine sba ?_ ?_ | refine sbt ?_ | refine sbl sbs | refine sbr ?_ | exact .head _ | refine .tail _ ?_ | refine List.mem_append_right _ ?_))
 have LP : codeAny (model PySem.Challenge.rw_wy0029_01.row.prog w) A (.compLoop (.SetComp elt [⟨.Name y py, iter, [], 0⟩] scope pos) 0 (.ref I) (.ref D) (compEnvC scope cl C env)) (CEnd h₀ L m C s (fun news' => Fin D news' s)) { s with heap := h₁, toks := tk₁ } := by
   refine zset_loop S hP f hf hn hkind hnm hCD (fun h => (ap _ h).1 rfl) (fun h => (ap _ h).2 rfl) off2 (step C D) (fun h' tk oC so m₂ es ep t hC F N H hm => ?_) ⟨h₁, tk₁, oC, so, _, o, #[], 0, t, rfl, hO, hC, F₁, perm, HF, fun x => ⟨(fun h => nomatch h), fun ⟨_, h, _⟩ => absurd h (Nat.not_lt_zero _)⟩, Nat.le_refl _⟩
   exact CEnd.intro hC F N (fun p hp => by
     rcases List.mem_cons.mp hp with rfl | hp
     · exact Ne.symm hCD
     · exact fun e => off2 p hp (by rw [e]; exact .head _)) (done D so es ep t (fun p hp e => off2 p hp (by rw [e]; exact .tail _ (.head _))) H hm)
 exact zcsS LP (S.self 0 o ((C, oC) :: (D, so) :: news) h₀ L _ _ _ hO (fun _ h => nomatch h) perm LP)
end
end
section
theorem owner_seti : Manifest.owners.lookup (String.ofList ['r', 'o', 't', 'a', 'r', 'e', 't', 'i', '_', 't', 'e', 's'].reverse) = some Manifest.sig_set_iterator := by kernel_rfl
theorem slot_seti_next : Slot "set_iterator" "__next__" "set_iterator.__next__" :=
 .of (owner := "set_iterator") (n := "__next__") (by rw [typeLookup_type, builtinLookup_eq_fast]; kernel_rfl) (by decide +kernel) (by decide +kernel) (by decide +kernel)
   (by first | exact .inl (by decide +kernel) | exact .inr (by decide +kernel)) (by rw [isSubtype_type]; kernel_rfl)
theorem slot_seti_iter : Slot "set_iterator" "__iter__" "set_iterator.__iter__" :=
 .of (owner := "set_iterator") (n := "__iter__") (by rw [typeLookup_type, builtinLookup_eq_fast]; kernel_rfl) (by decide +kernel) (by decide +kernel) (by decide +kernel)
   (by first | exact .inl (by decide +kernel) | exact .inr (by decide +kernel)) (by rw [isSubtype_type]; kernel_rfl)
theorem entry_seti_next : entryFor table "set_iterator.__next__" = some Builtin.«set_iterator.__next__» := entryFor_of_tree (by kernel_rfl)
theorem entry_seti_iter : entryFor table "set_iterator.__iter__" = some Builtin.«dict_keyiterator.__iter__» := entryFor_alias (id' := "dict_keyiterator.__iter__") (by kernel_rfl) rfl (by decide +kernel) (by kernel_rfl)
theorem entry_set_iter : entryFor table "set.__iter__" = some Builtin.«frozenset.__iter__» := entryFor_alias (id' := "frozenset.__iter__") (by kernel_rfl) rfl (by decide +kernel) (by kernel_rfl)
theorem args_seti_next (a : Value) : argsOk "set_iterator.__next__" ⟨[a], []⟩ := by
 unfold argsOk; rw [signature?_of (id := "set_iterator.__next__") (n := ['_', '_', 't', 'x', 'e', 'n', '_', '_']) (o := ['r', 'o', 't', 'a', 'r', 'e', 't', 'i', '_', 't', 'e', 's']) (by kernel_rfl) owner_seti]; kernel_rfl
theorem args_seti_iter (a : Value) : argsOk "set_iterator.__iter__" ⟨[a], []⟩ := by
 unfold argsOk; rw [signature?_of (id := "set_iterator.__iter__") (n := ['_', '_', 'r', 'e', 't', 'i', '_', '_']) (o := ['r', 'o', 't', 'a', 'r', 'e', 't', 'i', '_', 't', 'e', 's']) (by kernel_rfl) owner_seti]; kernel_rfl
theorem pick_go {α : Type} (next : Nat → Nat) : ∀ (fuel k : Nat) (left : List α) (out : Array α), left.length = fuel → List.Perm (pickOrder.go next fuel k left out).toList (out.toList ++ left)
 | 0, _, left, out, h => by
   rw [List.eq_nil_of_length_eq_zero h, List.append_nil]
   exact .rfl
 | f + 1, k, left, out, h => by
   unfold pickOrder.go
   have hlt : next k % left.length < left.length := Nat.mod_lt _ (Nat.lt_of_sub_eq_succ h)
   rw [List.getElem?_eq_getElem hlt]
   dsimp only
   refine (pick_go next f (k + 1) _ _ (by rw [List.length_eraseIdx_of_lt hlt]; exact Eq.symm (Nat.eq_sub_of_add_eq (id (Eq.symm h))))).trans ?_
   rw [Array.toList_push, List.append_assoc]
   refine List.Perm.append_left _ ?_
   rw [List.eraseIdx_eq_take_drop_succ]
   show List.Perm (left[next k % left.length] :: (List.take (next k % left.length) left ++ List.drop (next k % left.length + 1) left)) left
   refine List.perm_middle.symm.trans ?_
   rw [← List.drop_eq_getElem_cons hlt, List.take_append_drop]
theorem pick_perm {α : Type} (next : Nat → Nat) (xs : Array α) : List.Perm (pickOrder next xs).toList xs.toList := by
 unfold pickOrder
 exact (pick_go next _ _ _ #[] (by rw [Array.length_toList])).trans (by rw [List.nil_append])
noncomputable def setOrd (w : World) (r : Addr) (es : Array (Int × Value)) (ep : Nat) : Array (Int × Value) := if byTx w = true then pickOrder (w.params.setOrder r ep) es else es
theorem setOrd_perm (w : World) (r : Addr) (es : Array (Int × Value)) (ep : Nat) : List.Perm (setOrd w r es ep).toList es.toList := by
 unfold setOrd
 split
 · exact pick_perm _ _
 · exact .rfl
noncomputable def slotAt (t : SetTable) (i : Nat) : Nat := if i = 0 then 0 else t.place.getD (i - 1) 0 + 1
noncomputable def SetIt (w : World) (h : Heap) (I r : Addr) (so : Obj) (t : SetTable) (n ep i : Nat) : Prop :=
 h.get? r = some so ∧ ∃ o slot, h.get? I = some o ∧ o.cls = .type "set_iterator" ∧ o.data = .fields #[rawInt (slot : Nat), rawInt (i : Nat), .ref r, rawInt (n : Nat), rawInt (ep : Nat)] ∧ (byTx w = true ∨ slot = slotAt t i)
section
variable {w : World} {A : Around} {s : Shared} {E : Value → Shared → Prop} {r I : Addr} {so : Obj} {es : Array (Int × Value)} {ep : Nat} {t : SetTable}
theorem setsByText_of {Q : Bool → Shared → Prop} (h : Q (byTx w) s) : wpAny (model PySem.Challenge.rw_wy0029_01.row.prog w) A setsByText Q E s := by
 unfold setsByText
 exact wpAny_bind (wpAny_askSetting (wpAny_pure h))
theorem setNext_of {i slot : Nat} (H : SetF w so es ep t) (ho : s.heap.get? r = some so) (hi : i ≤ es.size) (hs : byTx w = true ∨ slot = slotAt t i) {Q : Option (Value × Nat) → Shared → Prop}
   (h : ∀ slot', (i < es.size → byTx w = true ∨ slot' = slotAt t (i + 1)) → Q ((setOrd w r es ep)[i]?.map fun e => (e.2, slot')) s) :
   wpAny (model PySem.Challenge.rw_wy0029_01.row.prog w) A (setNext r slot i ep) Q E s := by
 unfold setNext
 refine wpAny_bind (wpAny_setState_of ho H.data H.fits ?_)
 dsimp only
 refine wpAny_bind (setsByText_of ?_)
 cases hb : byTx w with
 | true =>
   rw [if_pos rfl, if_neg (by rw [bne_self_eq_false]; exact Bool.false_ne_true)]
   refine wpAny_bind ?_
   unfold setWalk
   refine wpAny_bind (wpAny_setState_of ho H.data H.fits ?_)
   dsimp only
   refine wpAny_bind (setsByText_of ?_)
   rw [hb, if_pos rfl]
   refine wpAny_bind (wpAny_askSetting (wpAny_pure ?_))
   refine wpAny_pure ?_
   have := h slot fun _ => .inl hb
   unfold setOrd at this
   rw [if_pos hb] at this
   exact this
 | false =>
   rw [hb] at hs
   rw [if_neg Bool.false_ne_true]
   have hd : (!t.plain && decide (es.size > 1)) = false := by rw [H.tab.plain]; rfl
   have hl : (!t.led && !es.isEmpty) = false := by rw [H.tab.led hb]; rfl
   show wpAny _ _ (if (!t.plain && decide (es.size > 1)) = true then _ else _) _ _ s
   rw [hd, if_neg Bool.false_ne_true]
   refine wpAny_bind ?_
   show wpAny _ _ (if (!t.led && !es.isEmpty) = true then _ else _) _ _ s
   rw [hl, if_neg Bool.false_ne_true]
   refine wpAny_pure ?_
   refine wpAny_pure ?_
   have hz := H.tab.size
   have hso : setOrd w r es ep = es := by unfold setOrd; rw [hb]; rfl
   obtain rfl := hs.elim (fun e => nomatch e) id
   have key : i ≤ es.size → SetTable.below t.place (slotAt t i) = i := fun hi => by
     unfold slotAt
     split
     · subst i; exact below_zero H.tab.rise
     · rename ¬ i = 0 => h0; rw [below_next H.tab.rise (Nat.lt_of_lt_of_le (Nat.sub_one_lt h0) (Nat.le_trans hi (Nat.le_of_eq hz.symm)))]; exact Nat.succ_pred_eq_of_pos (Nat.pos_of_ne_zero h0)
   rw [hso] at h
   rcases Nat.lt_or_ge i es.size with c | c
   · have h2 := h (t.place.getD i 0 + 1) fun _ => .inr (by unfold slotAt; rw [if_neg (Nat.succ_ne_zero i)]; rfl)
     rw [key (Nat.le_of_lt c)]
     rw [Array.getElem?_eq_getElem c] at h2 ⊢
     rw [Array.getElem?_eq_getElem (Nat.lt_of_lt_of_eq c (id (Eq.symm hz)))]
     rw [Array.getD_eq_getD_getElem?, Array.getElem?_eq_getElem (Nat.lt_of_lt_of_eq c (id (Eq.symm hz)))] at h2
     exact h2
   · have h2 := h 0 fun hlt => absurd hlt (Nat.not_lt.mpr c)
     have hge : es.size ≤ SetTable.below t.place (slotAt t i) := by rw [key hi]; exact c
     rw [Array.getElem?_eq_none c] at h2
     rw [Array.getElem?_eq_none hge]
     exact h2
theorem seti_next {i slot n : Nat} {o : Obj} (H : SetF w so es ep t) (hr : s.heap.get? r = some so) (hI : s.heap.get? I = some o) (hc : o.cls = .type "set_iterator") (hd : o.data = .fields #[rawInt (slot : Nat), rawInt (i : Nat), .ref r, rawInt (es.size : Nat), rawInt (ep : Nat)])
   (hi : i ≤ es.size) (hs : byTx w = true ∨ slot = slotAt t i) {Q : Option Value → Shared → Prop} (hh : A.handled = none)
   (h1 : ∀ e slot' h', (setOrd w r es ep)[i]? = some e → (i < es.size → byTx w = true ∨ slot' = slotAt t (i + 1)) → Heap.SameBut I s.heap h' → (∃ o', h'.get? I = some o' ∧ o'.cls = .type "set_iterator" ∧ o'.data = .fields #[rawInt (slot' : Nat), rawInt ((i + 1 : Nat)), .ref r, rawInt (es.size : Nat), rawInt (ep : Nat)]) → Q (some e.2) { s with heap := h' })
   (h2 : ∀ h', (setOrd w r es ep)[i]? = none → Heap.ExtBut I s.heap h' → Q none { s with heap := h' }) :
   wpAny (model PySem.Challenge.rw_wy0029_01.row.prog w) A (pyNext (.ref I)) Q E s := by
 have hT : s.TypeIs (.ref I) "set_iterator" := ⟨o, hI, hc⟩
 unfold pyNext
 refine wpAny_bind (wpAny_attempt (wpAny_callSpecial?_slot (name := Str.ofString "__next__") hT slot_seti_next
   (wpAny_call_entry slot_seti_next hT entry_seti_next ?_ (args_seti_next _))))
 unfold Builtin.«set_iterator.__next__» slotArgs
 show wpAny _ _ (pure _ >>= _) _ _ s
 refine wpAny_bind (wpAny_pure ?_)
 dsimp only
 refine wpAny_bind (wpAny_fieldsOf hI hd ?_)
 dsimp only [rawInt]
 refine wpAny_bind (wpAny_setEntries_of hr H.data H.fits ?_)
 rw [if_neg (by rw [bne_self_eq_false]; exact Bool.false_ne_true)]
 show wpAny _ _ (setNext r (Int.toNat (slot : Int)) (Int.toNat (i : Int)) (Int.toNat (ep : Int)) >>= _) _ _ s
 rw [Int.toNat_natCast, Int.toNat_natCast, Int.toNat_natCast]
 refine wpAny_bind (setNext_of H hr hi hs fun slot' hs' => ?_)
 cases he : (setOrd w r es ep)[i]? with
 | some e =>
   show wpAny _ _ (setField (.ref I) 0 (rawInt (slot' : Nat)) >>= _) _ _ s
   refine wpAny_bind (wpAny_setField hI hd (by simp) ?_)
   have g1 := Heap.get?_update_self (Obj.mapFields (·.setIfInBounds 0 (rawInt (slot' : Nat)))) hI (Obj.isFreed_of_fields (Obj.data_mapFields hd _))
   have d1 := Obj.data_mapFields hd (·.setIfInBounds 0 (rawInt (slot' : Nat)))
   refine wpAny_bind (wpAny_setField g1 d1 (by simp) ?_)
   have g2 := Heap.get?_update_self (Obj.mapFields (·.setIfInBounds 1 (rawInt ((i : Int) + 1)))) g1 (Obj.isFreed_of_fields (Obj.data_mapFields d1 _))
   have d2 := Obj.data_mapFields d1 (·.setIfInBounds 1 (rawInt ((i : Int) + 1)))
   show wpAny _ _ (pure _) _ _ _
   refine wpAny_pure ⟨_, rfl, wpAny_pure ?_⟩
   exact h1 e slot' _ he hs' ((Heap.SameBut.update _ I _).trans (Heap.SameBut.update _ I _)) ⟨_, g2, (Obj.cls_mapFields ..).trans ((Obj.cls_mapFields ..).trans hc), by rw [d2]; simp [rawInt]⟩
 | none =>
   show wpAny _ _ (setField (.ref I) 2 .none >>= _) _ _ s
   refine wpAny_bind (wpAny_setField hI hd (by simp) ?_)
   show wpAny _ _ (newExc (.type "StopIteration") [] >>= _) _ _ _
   refine wpAny_bind ?_
   simp only [newExc, newTuple]
   refine wpAny_bind (wpAny_newObj_type ?_ (by size_fits))
   refine wpAny_bind (m := firstArgMember _ _) (wpAny_of_eq (a := Value.none) (by first | rfl | (simp only [firstArgMember]; rfl)) ?_)
   refine wpAny_newObj_type ?_ (by size_fits)
   show wpAny _ _ (handled >>= _) _ _ _
   refine wpAny_bind (wpAny_handled ?_)
   rw [show A.in1.handled = none from hh]
   refine wpAny_bind (wpAny_pure (wpAny_throw ?_))
   refine wpAny_bind (wpAny_isInstance (T := "StopIteration") (b := true) ⟨_, Heap.get?_push_size _ rfl, rfl⟩ isSubtype_stop ?_)
   exact wpAny_pure (h2 _ he (((Heap.SameBut.update ..).extBut.push _).push _))
theorem set_iter (H : SetF w so es ep t) (hr : s.heap.get? r = some so) {Q : Value → Shared → Prop}
   (h : Q (.ref s.heap.objs.size) { s with heap := s.heap.push { cls := .type "set_iterator", data := .fields #[rawInt 0, rawInt 0, .ref r, rawInt (es.size : Nat), rawInt (ep : Nat)] } }) :
   wpAny (model PySem.Challenge.rw_wy0029_01.row.prog w) A (pyIter (.ref r)) Q E s := by
 have hT : s.TypeIs (.ref r) "set" := ⟨so, hr, H.ex.1⟩
 refine wpAny_pyIter_slot hT F.slot_set_iter (wpAny_call_entry F.slot_set_iter hT entry_set_iter ?_ (F.args_set_iter_1 _))
 unfold Builtin.«frozenset.__iter__» Builtin.Frozenset.slot0 slotArgs
 simp only [List.isEmpty_nil, Bool.not_true, Bool.false_eq_true, ↓reduceIte, bind_assoc, List.length_nil, bne_self_eq_false]
 unfold Builtin.Frozenset.addrOf Builtin.Frozenset.sizeOf
 refine wpAny_bind (wpAny_pure ?_)
 refine wpAny_bind (wpAny_pure ?_)
 refine wpAny_bind (wpAny_bind (wpAny_setEntries_of hr H.data H.fits (wpAny_pure ?_)))
 unfold setDrawn
 refine wpAny_bind (wpAny_bind (wpAny_setState_of hr H.data H.fits ?_))
 dsimp only
 refine wpAny_bind (setsByText_of (wpAny_pure ?_))
 have hd : (!byTx w && (!t.plain && decide (es.size > 1))) = false := by rw [H.tab.plain]; simp
 show wpAny _ _ (if (!byTx w && (!t.plain && decide (es.size > 1))) = true then _ else _) _ _ s
 rw [hd, if_neg Bool.false_ne_true]
 refine wpAny_bind (wpAny_pure ?_)
 refine wpAny_bind (wpAny_setEpoch_of hr H.data H.fits ?_)
 unfold newFields
 refine wpAny_bind (wpAny_newObj_type ?_ (by size_fits))
 show wpAny _ _ (pure _) _ _ _
 exact wpAny_pure ⟨_, rfl, "set_iterator", _, ⟨_, Heap.get?_push_size _ rfl, rfl⟩, slot_seti_next.lookup, h⟩
end
section
variable {w : World} {A : Around} {s : Shared} {E : Value → Shared → Prop} {r I : Addr} {so : Obj} {es : Array (Int × Value)} {ep : Nat} {t : SetTable}
theorem set_hint {Q : Bool → Shared → Prop} (hT : s.TypeIs (.ref r) "set") (h : Q false s) : wpAny (model PySem.Challenge.rw_wy0029_01.row.prog w) A (Builtin.List.listLengthHint (.ref r)) Q E s := by
 unfold Builtin.List.listLengthHint
 refine wpAny_bind (wpAny_specialOf hT F.slot_set_len.lookup ?_)
 generalize hid : ("set.__len__" : String) = id0
 wp_delta
 rw [show splitId id0 = some ("set", "__len__") from by subst hid; decide +kernel]
 subst hid
 refine wpAny_bind (wpAny_isInstance (T := "set") (b := true) hT (by rw [isSubtype_type]; kernel_rfl) ?_)
 refine wpAny_ite_split (fun hab => absurd hab (by decide)) (fun _ => ?_)
 refine wpAny_ite_split (fun _ => ?_) (fun hab => absurd (by decide +kernel) hab)
 refine wpAny_bind (wpAny_typeOf hT ?_)
 exact wpAny_pure h
theorem set_walks (H : SetF w so es ep t) (hh : A.handled = none) (hne : r ≠ I) : Walks PySem.Challenge.rw_wy0029_01.row.prog w A I [I, r] [I] es.size (fun i v => ∃ e, (setOrd w r es ep)[i]? = some e ∧ v = e.2) (fun i h => SetIt w h I r so t es.size ep i ∧ i ≤ es.size) where
 sub := fun b hb => by rw [List.mem_singleton.mp hb]; exact .head _
 frame := fun _ _ _ st hk => by
   obtain ⟨⟨a, o, sl, b, c⟩, d⟩ := st
   exact ⟨⟨hk r (.tail _ (.head _)) _ a, o, sl, hk I (.head _) _ b, c⟩, d⟩
 item := fun i s Q E hi st hQ => by
   obtain ⟨⟨hr, o, slot, hI, hc, hd, hs⟩, hle⟩ := st
   refine seti_next (n := 0) H hr hI hc hd hle hs hh (fun e slot' h' he hs' sb ho => hQ e.2 h' s.toks ⟨e, he, rfl⟩ ⟨⟨sb.extBut _ _ hne hr, ?_⟩, hi⟩ fun b o hb e => sb.extBut b o (fun h => hb (by rw [h]; exact .head _)) e) fun h' he _ => ?_
   · refine x1a3 ho ?_; clear ho; rintro o' h1 h2 h3
     exact ⟨o', slot', h1, h2, h3, hs' hi⟩
   · have hz : (setOrd w r es ep).size = es.size := by rw [← Array.length_toList, (setOrd_perm w r es ep).length_eq, Array.length_toList]
     rw [Array.getElem?_eq_getElem (Nat.lt_of_lt_of_eq hi (id (Eq.symm hz)))] at he
     cases he
 done := fun s Q E st hQ => by
   obtain ⟨⟨hr, o, slot, hI, hc, hd, hs⟩, hle⟩ := st
   have hz : (setOrd w r es ep).size = es.size := by rw [← Array.length_toList, (setOrd_perm w r es ep).length_eq, Array.length_toList]
   refine seti_next (n := 0) H hr hI hc hd hle hs hh (fun e slot' h' he _ _ _ => ?_) fun h' _ eb => hQ h' s.toks fun b o hb e => eb b o (fun h => hb (by rw [h]; exact .head _)) e
   rw [Array.getElem?_eq_none (Nat.le_of_eq hz)] at he
   cases he
 self := fun i s Q E st hQ => by
   obtain ⟨⟨hr, o, slot, hI, hc, hd, hs⟩, hle⟩ := st
   have hT : s.TypeIs (.ref I) "set_iterator" := ⟨o, hI, hc⟩
   refine wpAny_pyIter_slot hT slot_seti_iter (wpAny_call_entry slot_seti_iter hT entry_seti_iter ?_ (args_seti_iter _))
   show wpAny _ _ (ret (.ref I)) _ _ s
   exact wpAny_pure ⟨_, rfl, "set_iterator", _, hT, slot_seti_next.lookup, hQ⟩
theorem set_src (H : SetF w so es ep t) : KdlSrc PySem.Challenge.rw_wy0029_01.row.prog w "set" r r es.size (fun i v => ∃ e, (setOrd w r es ep)[i]? = some e ∧ v = e.2) (fun h => h.get? r = some so) where
 type := fun _ hr => ⟨so, hr, H.ex.1⟩
 there := fun _ hr => ⟨Heap.lt_size hr, Heap.lt_size hr⟩
 keep := fun _ _ hr hk => hk r (.inl rfl) _ hr
 notList := by decide
 notTuple := by decide
 hint := fun _ _ _ _ hr hq => set_hint ⟨so, hr, H.ex.1⟩ hq
 iter := fun A s hh hr => ⟨_, _, (fun _ _ hq => set_iter H hr hq), set_walks H hh (Nat.ne_of_lt (Heap.lt_size hr)), ⟨⟨Heap.get?_push_of_some _ hr, _, 0, Heap.get?_push_size _ rfl, rfl, rfl, .inr rfl⟩, Nat.zero_le _⟩⟩
theorem ints_of_el : ∀ {l : List (Int × Value)}, (∀ e ∈ l, ∃ u, e.2 = .int (ival e.2) u) → IntsAre (l.map (·.2)) (l.map fun e => ival e.2)
 | [], _ => .nil
 | e :: l, h => by
   obtain ⟨u, hu⟩ := h e (.head _)
   rw [List.map_cons, List.map_cons, hu]
   exact .cons _ _ (ints_of_el fun x hx => h x (.tail _ hx))
variable {h₀ : Heap} {L D : Addr} {m : Str → Option Value} {news : List (Addr × Obj)} {Q : Value → Shared → Prop}
theorem set_sorted (hh : A.handled = none) (F : Fr h₀ L s.heap m) (N : News h₀ L s.heap news) (hm : (D, so) ∈ news) (H : SetF w so es ep t)
   (h : ∀ B h' tk vs ns c, Fr h₀ L h' m → News h₀ L h' ((B, listOf (List.toArray vs) c) :: news) → (∀ q ∈ news, @LT.lt Nat _ q.1 B) → IntsAre vs ns → ns.Perm (keysOf es) → ns.Pairwise (fun x y => x ≤ y) → Q (.ref B) { s with heap := h', toks := tk }) :
   wpAny (model PySem.Challenge.rw_wy0029_01.row.prog w) A (call (.builtin "sorted") [.ref D]) Q E s := by
 have hz : (setOrd w D es ep).size = es.size := by rw [← Array.length_toList, (setOrd_perm w D es ep).length_eq, Array.length_toList]
 have h5 := H.few
 refine kdu_sorted (set_src H) hh F N (N _ hm).1 (by rw [sizeLine_eq]; omega) fun B h' tk vs F' N' l1 hl hv => ?_
 have hvs : vs = (setOrd w D es ep).toList.map (·.2) := by
   refine List.ext_getElem? fun i => ?_
   rcases Nat.lt_or_ge i vs.length with c | c
   · obtain ⟨e, he, e'⟩ := hv i _ (List.getElem?_eq_getElem c)
     rw [List.getElem?_eq_getElem c, e', List.getElem?_map, Array.getElem?_toList, he]
     rfl
   · rw [List.getElem?_eq_none c, List.getElem?_eq_none (by rw [List.length_map, Array.length_toList]; omega)]
 have hI : IntsAre vs ((setOrd w D es ep).toList.map fun e => ival e.2) := by
   rw [hvs]
   exact ints_of_el fun e he => (el_int H.el ((setOrd_perm w D es ep).mem_iff.mp he)).1
 refine ksk_lsort F' N' (fun o => .head fun p hp => Nat.ne_of_lt (l1 p hp)) rfl hI (by rw [List.length_map, Array.length_toList]; omega) ?_
 intro vs' ns' c h'' F'' N'' hI' _ hp hP _
 exact h B h'' tk vs' ns' c F'' N'' l1 hI' (hp.trans ((setOrd_perm w D es ep).map _)) hP
end
end
section
section
variable {prog : Program} {w : World} {A : Around} {h₀ : Heap} {env : Env} {s : Shared} {target : Expr} {I : Addr} {n : Nat} {ow : List Addr} {need : List (Addr × Obj)} {P : Nat → Value → List (Addr × Obj) → Nat → Nat → Prop} {O : Nat → List (Addr × Obj) → Prop}
 {L : Addr} {m : Str → Option Value} {elt : Expr} {gens : List Comprehension} {iter : Expr} {ifs : List Expr} {scope : Scope} {cl : List (Str × Addr)} {pos : Pos} {d : Nat} {names : List Str}
theorem zcl_in {R : Result → Shared → Prop} {C D : Addr} {oC : Obj} {m₂ : Str → Option Value} {ys : List Value} {o Zf W : List (Addr × Obj)}
   (hg : gens[d]? = some ⟨target, iter, ifs, 0⟩) (hgn : gens[d + 1]? = none) (hh : A.handled = none) (S : Src prog w A target I n ow need P O)
   (V : Nat → List Value → List (Addr × Obj) → Prop) (J : Nat → List Value → (Str → Option Value) → List (Addr × Obj) → Prop) (hJ : ∀ i ys m₂ news, J i ys m₂ news → (∀ p ∈ need, p ∈ news) ∧ ys.length ≤ 1000)
   (hV : ∀ i v x t u ys m₂ news, i < n → J i ys m₂ news → P i v x t u → ∃ vals, V i vals x ∧ Unp target v names vals (x ++ news))
   (hkind : scope.kind = .function) (hnm : ∀ x ∈ names, scope.names.lookup x = some .local)
   (hCD : C ≠ D) (hC : LCg.NsObj oC m₂) (F : Fr h₀ L s.heap m) (N : News h₀ L s.heap (o ++ Zf)) (hO : O 0 o) (hoff : ∀ p ∈ Zf, p.1 ∉ ow) (mC : (C, oC) ∈ Zf) (mD : (D, listOf ys.toArray ys.length) ∈ Zf) (hW : ∀ q ∈ W, q ∈ Zf ∧ q.1 ≠ C ∧ q.1 ≠ D) (h0 : J 0 ys m₂ W)
   (step : ∀ (J' : Nat → List Value → (Str → Option Value) → List (Addr × Obj) → Prop) (σ : Shared), (∀ i ys m₂ d, J i ys m₂ d → J' i ys m₂ d) → ∀ i vals x o m₂ oC ys news h₁ tk₁, i < n → J i ys m₂ news → V i vals x → (∀ p ∈ o, p.1 ∈ ow) → (∀ a ∈ ow, ∃ ob, (a, ob) ∈ o) → (∀ p ∈ x, p.1 ∉ C :: D :: ow) → (∀ p ∈ news, p.1 ∉ C :: D :: ow) → LCg.NsObj oC (bindMap names vals m₂) → Fr h₀ L h₁ m → News h₀ L h₁ ((C, oC) :: (D, listOf ys.toArray ys.length) :: (x ++ (o ++ news))) →
     wpAny (model prog w) A (compTests ifs (compEnvC scope cl C env)) (fun ok s₃ => if ok = true then
         wpAny (model prog w) A (eval elt (compEnvC scope cl C env)) (fun y s₄ => CNextM h₀ L m ow C D o ys (J' (i + 1) (ys ++ [y])) σ s₄) (fun _ _ => False) s₃
       else CNextM h₀ L m ow C D o ys (J' (i + 1) ys) σ s₃) (fun _ _ => False) { σ with heap := h₁, toks := tk₁ })
   (done : ∀ h' tk oC m₂ ys news, LCg.NsObj oC m₂ → Fr h₀ L h' m → News h₀ L h' ((C, oC) :: (D, listOf ys.toArray ys.length) :: news) → (∀ p ∈ news, p.1 ∉ C :: D :: ow) → J n ys m₂ news → R (.ok .next) { s with heap := h', toks := tk }) :
   codeAny (model prog w) A (.compStart (.ListComp elt gens scope pos) d (.ref I) (.ref D) (compEnvC scope cl C env)) R s := by
 have N' : News h₀ L s.heap ((C, oC) :: (D, listOf ys.toArray ys.length) :: (o ++ W)) := fun p hp => by
   rcases List.mem_cons.mp hp with rfl | hp
   · exact N _ (List.mem_append_right _ mC)
   · rcases List.mem_cons.mp hp with rfl | hp
     · exact N _ (List.mem_append_right _ mD)
     · exact N p ((List.mem_append.mp hp).elim (List.mem_append_left _) fun h => List.mem_append_right _ (hW p h).1)
 have LP : codeAny (model prog w) A (.compLoop (.ListComp elt gens scope pos) d (.ref I) (.ref D) (compEnvC scope cl C env)) R s :=
   zcl_lastM hg hgn hh S V J hJ hV hkind hnm hCD hC F N' hO (fun p hp hm => by
     obtain ⟨a, b, c⟩ := hW p hp
     rcases List.mem_cons.mp hm with e | hm
     · exact b e
     · rcases List.mem_cons.mp hm with e | hm
       · exact c e
       · exact hoff p a hm) (hoff _ mC) (hoff _ mD) h0 (step J s fun _ _ _ _ h => h) done
 exact zcs hg LP (S.self 0 o W h₀ L _ _ _ hO (hJ _ _ _ _ h0).1 (fun p hp => N p ((List.mem_append.mp hp).elim (List.mem_append_left _) fun h => List.mem_append_right _ (hW p h).1)) LP)
theorem zcl_mid {R : Result → Shared → Prop} {target' iter' : Expr} {ifs' : List Expr} {C D : Addr} {oC : Obj} {m₂ : Str → Option Value} {ys : List Value} {o Zf W : List (Addr × Obj)}
   (hg : gens[d]? = some ⟨target, iter, ifs, 0⟩) (hgn : gens[d + 1]? = some ⟨target', iter', ifs', 0⟩) (hfs : ∀ x, foldedSetIterable iter' (compEnvC scope cl C env) x = pure x) (hh : A.handled = none) (S : Src prog w A target I n ow need P O)
   (V : Nat → List Value → List (Addr × Obj) → Prop) (J : Nat → List Value → (Str → Option Value) → List (Addr × Obj) → Prop) (hJ : ∀ i ys m₂ news, J i ys m₂ news → ∀ p ∈ need, p ∈ news)
   (hV : ∀ i v x t u ys m₂ news, i < n → J i ys m₂ news → P i v x t u → ∃ vals, V i vals x ∧ Unp target v names vals (x ++ news))
   (hkind : scope.kind = .function) (hnm : ∀ x ∈ names, scope.names.lookup x = some .local)
   (hCD : C ≠ D) (hC : LCg.NsObj oC m₂) (F : Fr h₀ L s.heap m) (N : News h₀ L s.heap (o ++ Zf)) (hO : O 0 o) (hoff : ∀ p ∈ Zf, p.1 ∉ ow) (mC : (C, oC) ∈ Zf) (mD : (D, listOf ys.toArray ys.length) ∈ Zf) (hW : ∀ q ∈ W, q ∈ Zf ∧ q.1 ≠ C ∧ q.1 ≠ D) (h0 : J 0 ys m₂ W)
   (step : ∀ (J' : Nat → List Value → (Str → Option Value) → List (Addr × Obj) → Prop) (σ : Shared), (∀ i ys m₂ d, J i ys m₂ d → J' i ys m₂ d) → ∀ i vals x o m₂ oC ys news h₁ tk₁, i < n → J i ys m₂ news → V i vals x → (∀ p ∈ o, p.1 ∈ ow) → (∀ a ∈ ow, ∃ ob, (a, ob) ∈ o) → (∀ p ∈ x, p.1 ∉ C :: D :: ow) → (∀ p ∈ news, p.1 ∉ C :: D :: ow) → LCg.NsObj oC (bindMap names vals m₂) → Fr h₀ L h₁ m → News h₀ L h₁ ((C, oC) :: (D, listOf ys.toArray ys.length) :: (x ++ (o ++ news))) →
     wpAny (model prog w) A (compTests ifs (compEnvC scope cl C env)) (fun ok s₃ => if ok = true then
         wpAny (model prog w) A (eval iter' (compEnvC scope cl C env)) (fun xv s₄ => wpAny (model prog w) A (pyIter xv) (fun it s₅ =>
           codeAny (model prog w) A (.compStart (.ListComp elt gens scope pos) (d + 1) it (.ref D) (compEnvC scope cl C env)) (fun r s₆ => (∃ f, r = .ok f) ∧ ∃ ys', CNextM h₀ L m ow C D o ys' (J' (i + 1) ys') σ s₆) s₅) (fun _ _ => False) s₄) (fun _ _ => False) s₃
       else CNextM h₀ L m ow C D o ys (J' (i + 1) ys) σ s₃) (fun _ _ => False) { σ with heap := h₁, toks := tk₁ })
   (done : ∀ h' tk oC m₂ ys news, LCg.NsObj oC m₂ → Fr h₀ L h' m → News h₀ L h' ((C, oC) :: (D, listOf ys.toArray ys.length) :: news) → (∀ p ∈ news, p.1 ∉ C :: D :: ow) → J n ys m₂ news → R (.ok .next) { s with heap := h', toks := tk }) :
   codeAny (model prog w) A (.compStart (.ListComp elt gens scope pos) d (.ref I) (.ref D) (compEnvC scope cl C env)) R s := by
 have N' : News h₀ L s.heap ((C, oC) :: (D, listOf ys.toArray ys.length) :: (o ++ W)) := fun p hp => by
   rcases List.mem_cons.mp hp with rfl | hp
   · exact N _ (List.mem_append_right _ mC)
   · rcases List.mem_cons.mp hp with rfl | hp
     · exact N _ (List.mem_append_right _ mD)
     · exact N p ((List.mem_append.mp hp).elim (List.mem_append_left _) fun h => List.mem_append_right _ (hW p h).1)
 have LP : codeAny (model prog w) A (.compLoop (.ListComp elt gens scope pos) d (.ref I) (.ref D) (compEnvC scope cl C env)) R s :=
   zcl_moreM hg hgn hfs hh S V J hJ hV hkind hnm hCD hC F N' hO (fun p hp hm => by
     obtain ⟨a, b, c⟩ := hW p hp
     rcases List.mem_cons.mp hm with e | hm
     · exact b e
     · rcases List.mem_cons.mp hm with e | hm
       · exact c e
       · exact hoff p a hm) (hoff _ mC) (hoff _ mD) h0
     (step J s fun _ _ _ _ h => h) done
 exact zcs hg LP (S.self 0 o W h₀ L _ _ _ hO (hJ _ _ _ _ h0) (fun p hp => N p ((List.mem_append.mp hp).elim (List.mem_append_left _) fun h => List.mem_append_right _ (hW p h).1)) LP)
theorem zcl_out {target' iter' : Expr} {ifs' : List Expr} {more : List Comprehension} {news o : List (Addr × Obj)} {Fin : Addr → List (Addr × Obj) → Shared → Prop} (hfs : ∀ C x, foldedSetIterable iter' (compEnvC scope cl C env) x = pure x) (hh : A.handled = none) (S : Src prog w A target I n ow need P O)
   (V : Nat → List Value → List (Addr × Obj) → Prop) (J : Nat → List Value → (Str → Option Value) → List (Addr × Obj) → Prop) (hJ : ∀ i ys m₂ news, J i ys m₂ news → ∀ p ∈ need, p ∈ news)
   (hV : ∀ i v x t u ys m₂ news, i < n → J i ys m₂ news → P i v x t u → ∃ vals, V i vals x ∧ Unp target v names vals (x ++ news))
   (hkind : scope.kind = .function) (hnm : ∀ x ∈ names, scope.names.lookup x = some .local) (F : Fr h₀ L s.heap m) (N : News h₀ L s.heap (o ++ news)) (hO : O 0 o) (hoff : ∀ p ∈ news, p.1 ∉ ow) (h0 : J 0 [] (fun _ => none) news)
   (step : ∀ (J' : Nat → List Value → (Str → Option Value) → List (Addr × Obj) → Prop) (σ : Shared), (∀ i ys m₂ d, J i ys m₂ d → J' i ys m₂ d) → ∀ C D i vals x o m₂ oC ys news h₁ tk₁, C ≠ D → C ∉ ow → D ∉ ow → i < n → J i ys m₂ news → V i vals x → (∀ p ∈ o, p.1 ∈ ow) → (∀ a ∈ ow, ∃ ob, (a, ob) ∈ o) → (∀ p ∈ x, p.1 ∉ C :: D :: ow) → (∀ p ∈ news, p.1 ∉ C :: D :: ow) → LCg.NsObj oC (bindMap names vals m₂) → Fr h₀ L h₁ m → News h₀ L h₁ ((C, oC) :: (D, listOf ys.toArray ys.length) :: (x ++ (o ++ news))) →
     wpAny (model prog w) A (compTests ifs (compEnvC scope cl C env)) (fun ok s₃ => if ok = true then
         wpAny (model prog w) A (eval iter' (compEnvC scope cl C env)) (fun xv s₄ => wpAny (model prog w) A (pyIter xv) (fun it s₅ =>
           codeAny (model prog w) A (.compStart (.ListComp elt (⟨target, iter, ifs, 0⟩ :: ⟨target', iter', ifs', 0⟩ :: more) scope pos) 1 it (.ref D) (compEnvC scope cl C env)) (fun r s₆ => (∃ f, r = .ok f) ∧ ∃ ys', CNextM h₀ L m ow C D o ys' (J' (i + 1) ys') σ s₆) s₅) (fun _ _ => False) s₄) (fun _ _ => False) s₃
       else CNextM h₀ L m ow C D o ys (J' (i + 1) ys) σ s₃) (fun _ _ => False) { σ with heap := h₁, toks := tk₁ })
   (done : ∀ D ys news, (∀ p ∈ news, p.1 ≠ D) → (∃ m₂, J n ys m₂ news) → Fin D ((D, listOf ys.toArray ys.length) :: news) s) :
   CStart prog w A h₀ L m env elt (⟨target, iter, ifs, 0⟩ :: ⟨target', iter', ifs', 0⟩ :: more) scope cl pos Fin (.ref I) s := by
 refine ⟨_, F, N, fun C oC D h₁ tk₁ hCD hap hC F₁ N₁ => ?_⟩
 have ap : ∀ a ∈ ow, a ≠ C ∧ a ≠ D := fun a ha => by
   obtain ⟨ob, hm⟩ := S.live _ _ hO a ha
   exact hap _ (List.mem_append_left _ hm)
 have cw : C ∉ ow := fun h => (ap _ h).1 rfl
 have dw : D ∉ ow := fun h => (ap _ h).2 rfl
 refine zcl_mid (R := CEnd h₀ L m C s fun news' => Fin D news' s) (Zf := (C, oC) :: (D, listOf #[] 0) :: news) (W := news) (ys := []) rfl rfl (hfs C) hh S V J hJ hV hkind hnm hCD hC F₁ (sbn N₁ (by repeat' (first | exact sb0 | exact sbs | refine sbc ?_ ?_ | refine sba ?_ ?_ | refine sbt ?_ | refine sbl sbs | refine sbr ?_ | exact .head _ | refine .tail _ ?_ | refine List.mem_append_right _ ?_))) hO (fun p hp => ?_) (.head _) (.tail _ (.head _)) (fun q hq => ⟨.tail _ (.tail _ hq), hap q (List.mem_append_right _ hq)⟩) h0
   (fun J' σ hJJ i vals x o m₂ oC ys news h₁ tk₁ => step J' σ hJJ C D i vals x o m₂ oC ys news h₁ tk₁ hCD cw dw) ?_
 · rcases List.mem_cons.mp hp with rfl | hp
   · exact cw
   · rcases List.mem_cons.mp hp with rfl | hp
     · exact dw
     · exact hoff p hp
 · intro h' tk oC m₂ ys news hC F N ho hJn
   refine CEnd.intro hC F N (fun p hp => ?_) (done D ys news (fun p hp e => ho p hp (by rw [e]; exact .tail _ (.head _))) ⟨_, hJn⟩)
   rcases List.mem_cons.mp hp with rfl | hp
   · exact Ne.symm hCD
   · exact fun e => ho p hp (by rw [e]; exact .head _)
theorem zcl1L {news o : List (Addr × Obj)} {Fin : Addr → List (Addr × Obj) → Shared → Prop}
   (hh : A.handled = none) (S : Src prog w A target I n ow need P O)
   (V : Nat → List Value → List (Addr × Obj) → Prop) (J : Nat → List Value → (Str → Option Value) → List (Addr × Obj) → Prop) (hJ : ∀ i ys m₂ news, J i ys m₂ news → (∀ p ∈ need, p ∈ news) ∧ ys.length ≤ 1000)
   (hV : ∀ i v x t u ys m₂ news, i < n → J i ys m₂ news → P i v x t u → ∃ vals, V i vals x ∧ Unp target v names vals (x ++ news))
   (hkind : scope.kind = .function) (hnm : ∀ x ∈ names, scope.names.lookup x = some .local)
   (F : Fr h₀ L s.heap m) (N : News h₀ L s.heap (o ++ news)) (hO : O 0 o) (hoff : ∀ p ∈ news, p.1 ∉ ow) (h0 : J 0 [] (fun _ => none) news)
   (step : ∀ (J' : Nat → List Value → (Str → Option Value) → List (Addr × Obj) → Prop) (σ : Shared), (∀ i ys m₂ d, J i ys m₂ d → J' i ys m₂ d) → ∀ C D i vals x o m₂ oC ys news h₁ tk₁, i < n → J i ys m₂ news → V i vals x → (∀ p ∈ o, p.1 ∈ ow) → (∀ a ∈ ow, ∃ ob, (a, ob) ∈ o) → (∀ p ∈ x, p.1 ∉ C :: D :: ow) → (∀ p ∈ news, p.1 ∉ C :: D :: ow) → LCg.NsObj oC (bindMap names vals m₂) → Fr h₀ L h₁ m → News h₀ L h₁ ((C, oC) :: (D, listOf ys.toArray ys.length) :: (x ++ (o ++ news))) →
     wpAny (model prog w) A (compTests ifs (compEnvC scope cl C env)) (fun ok s₃ => if ok = true then
         wpAny (model prog w) A (eval elt (compEnvC scope cl C env)) (fun y s₄ => CNextM h₀ L m ow C D o ys (J' (i + 1) (ys ++ [y])) σ s₄) (fun _ _ => False) s₃
       else CNextM h₀ L m ow C D o ys (J' (i + 1) ys) σ s₃) (fun _ _ => False) { σ with heap := h₁, toks := tk₁ })
   (done : ∀ D ys news, (∀ p ∈ news, p.1 ≠ D) → (∃ m₂, J n ys m₂ news) → Fin D ((D, listOf ys.toArray ys.length) :: news) s) :
   CStart prog w A h₀ L m env elt [⟨target, iter, ifs, 0⟩] scope cl pos Fin (.ref I) s := by
 refine ⟨_, F, N, fun C oC D h₁ tk₁ hCD hap hC F₁ N₁ => ?_⟩
 have ap : ∀ a ∈ ow, a ≠ C ∧ a ≠ D := fun a ha => by
   obtain ⟨ob, hm⟩ := S.live _ _ hO a ha
   exact hap _ (List.mem_append_left _ hm)
 refine zcl_in (R := CEnd h₀ L m C s fun news' => Fin D news' s) (Zf := (C, oC) :: (D, listOf #[] 0) :: news) (W := news) (ys := []) rfl rfl hh S V J hJ hV hkind hnm hCD hC F₁ (sbn N₁ (by repeat' (first | exact sb0 | exact sbs | refine sbc ?_ ?_ | refine sba ?_ ?_ | refine sbt ?_ | refine sbl sbs | refine sbr ?_ | exact .head _ | refine .tail _ ?_ | refine List.mem_append_right _ ?_))) hO (fun p hp => ?_) (.head _) (.tail _ (.head _)) (fun q hq => ⟨.tail _ (.tail _ hq), hap q (List.mem_append_right _ hq)⟩) h0
   (fun J' σ hJJ => step J' σ hJJ C D) ?_
 · rcases List.mem_cons.mp hp with rfl | hp
   · exact fun h => (ap _ h).1 rfl
   · rcases List.mem_cons.mp hp with rfl | hp
     · exact fun h => (ap _ h).2 rfl
     · exact hoff p hp
 · intro h' tk oC m₂ ys news hC F N ho hJn
   refine CEnd.intro hC F N (fun p hp => ?_) (done D ys news (fun p hp e => ho p hp (by rw [e]; exact .tail _ (.head _))) ⟨_, hJn⟩)
   rcases List.mem_cons.mp hp with rfl | hp
   · exact Ne.symm hCD
   · exact fun e => ho p hp (by rw [e]; exact .head _)
end
end
section
section
variable {prog : Program} {w : World} {A : Around} {s : Shared} {E : Value → Shared → Prop}
structure Rows3 (es : Array DictEntry) (ks : List (Str × Value)) : Prop where
 at' : ∀ (i : Nat) (e : DictEntry), es[i]? = some e → ∃ k t, ks[i]? = some (k, e.val) ∧ e.key = .str k t
 size : es.size = ks.length
 nodup : (ks.map (·.1)).Nodup
theorem Rows3.of {P : Program} {v : World} {o : Obj} {ks : List (Str × Value)} (h : o.IsDictOf (strKind P v) ks) : ∃ es ep, o.cls = .type "dict" ∧ o.data = .dict es ep ∧ Rows3 es ks := by
 obtain ⟨es, ep, hx, hd, _, hp, hn⟩ := h
 have hsz : es.size = ks.length := by rw [← hp.length, Array.length_toList]
 refine ⟨es, ep, hx.1, hd, fun i e he => ?_, hsz, hn⟩
 have hi : i < ks.length := by rw [← hsz]; exact (Array.getElem?_eq_some_iff.mp he).1
 obtain ⟨h1, h2⟩ := hp.get? (i := i) (e := e) (k := ks[i].1) (v := ks[i].2) (by rw [Array.getElem?_toList]; exact he) (List.getElem?_eq_getElem hi)
 obtain ⟨t, ht⟩ := Value.isStrOf_shape h1
 exact ⟨ks[i].1, t, by rw [List.getElem?_eq_getElem hi, h2], ht⟩
theorem Rows3.find {es : Array DictEntry} {ks : List (Str × Value)} (h : Rows3 es ks) {i : Nat} {k : Str} {v : Value} (hi : ks[i]? = some (k, v)) : es.findIdx? (fun e => e.key.isStr k) = some i := by
 have hlt : i < ks.length := (List.getElem?_eq_some_iff.mp hi).1
 have hlt' : i < es.size := by rw [h.size]; exact hlt
 rw [Array.findIdx?_eq_some_iff_getElem]
 refine ⟨hlt', ?_, fun j hj => ?_⟩
 · obtain ⟨k', t, h1, h2⟩ := h.at' i _ (Array.getElem?_eq_getElem hlt')
   rw [hi] at h1
   cases h1
   rw [h2]
   exact beq_self_eq_true k
 · obtain ⟨k', t, h1, h2⟩ := h.at' j _ (Array.getElem?_eq_getElem (Nat.lt_trans hj hlt'))
   rw [h2]
   intro e
   have e := eq_of_beq (show (k' == k) = true from e)
   have := List.pairwise_iff_getElem.mp h.nodup j i (by rw [List.length_map]; exact place_lt h1) (by rw [List.length_map]; exact hlt) hj
   rw [List.getElem_map, List.getElem_map, (List.getElem?_eq_some_iff.mp h1).2, (List.getElem?_eq_some_iff.mp hi).2] at this
   exact this e
theorem find_rows {d : Addr} {o : Obj} {es : Array DictEntry} {ep : Nat} {ks : List (Str × Value)} (ho : s.heap.get? d = some o) (hd : o.data = .dict es ep) (R : Rows3 es ks) {i : Nat} {k : Str} {v : Value} {t : Tok} {h : Int} (hi : ks[i]? = some (k, v)) {Q : Option Nat → Shared → Prop} (hq : Q (some i) s) :
   wpAny (model prog w) A (dictFind d (.str k t) h) Q E s := by
 have hlt' : i < es.size := by rw [R.size]; exact (List.getElem?_eq_some_iff.mp hi).1
 obtain ⟨k', t', h1, h2⟩ := R.at' i _ (Array.getElem?_eq_getElem hlt')
 rw [hi] at h1
 cases h1
 have hall : (es.all fun e => isExactStrKey e.key) = true := by
   rw [Array.all_eq_true]
   intro j hj
   obtain ⟨_, _, _, e⟩ := R.at' j _ (Array.getElem?_eq_getElem hj)
   rw [e]; rfl
 unfold dictFind
 refine wpAny_holding (wpAny_bind (wpAny_dictEntries ho hd ?_))
 dsimp only
 rw [if_pos hall]
 unfold foundByValue
 rw [R.find hi]
 dsimp only
 rw [Array.getElem?_eq_getElem hlt']
 dsimp only
 refine wpAny_bind (wpAny_dictEpoch ho hd ?_)
 rw [h2]
 refine wpAny_bind (wpAny_eqBool_str ?_)
 rw [decide_eq_true rfl]
 refine wpAny_bind (wpAny_dictEpoch ho hd ?_)
 rw [if_neg (by simp)]
 rw [if_pos rfl]
 exact wpAny_bind (wpAny_rule (wpAny_pure hq))
theorem same_rows {nm : String} {a b : Addr} {oa ob : Obj} {ea eb : Array DictEntry} {pa pb : Nat} {ka kb : List (Str × Value)} (la : (a == sysModules) = false) (lb : (b == sysModules) = false) (ha : s.heap.get? a = some oa) (hb : s.heap.get? b = some ob) (da : oa.data = .dict ea pa) (db : ob.data = .dict eb pb)
   (Ra : Rows3 ea ka) (Rb : Rows3 eb kb) (hk : ka.map (·.1) = kb.map (·.1)) (hv : ∀ (i : Nat) (k : Str) (v y : Value), ka[i]? = some (k, v) → kb[i]? = some (k, y) → SeqAt.EqAt A s v y true) {Q : Bool → Shared → Prop} (h : Q true s) :
   wpAny (model prog w) A (Builtin.Dict.samePairs nm a b) Q E s := by
 have hl : ka.length = kb.length := by rw [← List.length_map (f := (·.1)), hk, List.length_map]
 have hsz : ea.size = eb.size := by rw [Ra.size, Rb.size, hl]
 unfold Builtin.Dict.samePairs Builtin.Dict.showsAll
 rw [if_neg (show ¬ (a == sysModules) = true by rw [la]; exact Bool.false_ne_true), if_neg (show ¬ (b == sysModules) = true by rw [lb]; exact Bool.false_ne_true)]
 refine wpAny_bind (wpAny_pure (wpAny_bind (wpAny_pure ?_)))
 refine wpAny_bind (wpAny_dictEntries ha da ?_)
 dsimp only
 refine wpAny_bind (wpAny_dictEntries hb db ?_)
 rw [if_neg (by rw [hsz]; simp)]
 refine wpAny_bind (wpAny_dictEpoch ha da ?_)
 refine wpAny_bind ?_
 rw [Std.Legacy.Range.forIn_eq_forIn_range']
 simp only [Std.Legacy.Range.size, Nat.sub_zero, Nat.add_sub_cancel, Nat.div_one]
 refine wpAny_forIn_list _ (fun rest q s' => s' = s ∧ q = (none, ()) ∧ ∃ i, rest = List.range' i (ea.size - i) ∧ i ≤ ea.size) _ ?_ ?_ _ _ ⟨rfl, rfl, 0, by simp, Nat.zero_le _⟩
 · rintro x rest q s' ⟨rfl, rfl, i, hr, hi⟩
   have hlt : i < ea.size := by
     rcases Nat.lt_or_ge i ea.size with h | h
     · exact h
     · rw [Nat.sub_eq_zero_of_le h] at hr; simp at hr
   obtain ⟨rfl, hrest⟩ : x = i ∧ rest = List.range' (i + 1) (ea.size - (i + 1)) := by
     have e : ea.size - i = (ea.size - (i + 1)) + 1 := (Nat.succ_pred_eq_of_pos (Nat.sub_pos_of_lt hlt)).symm
     rw [e, List.range'_succ] at hr
     injection hr with h1 h2
     exact ⟨h1, h2⟩
   refine wpAny_bind (wpAny_dictEntries ha da ?_)
   rw [Array.getElem?_eq_getElem hlt]
   obtain ⟨k, t, h1, h2⟩ := Ra.at' x _ (Array.getElem?_eq_getElem hlt)
   have hlb : x < eb.size := by exact Nat.lt_of_lt_of_eq hlt hsz
   obtain ⟨k', t', h1', h2'⟩ := Rb.at' x _ (Array.getElem?_eq_getElem hlb)
   have ek : k' = k := by
     have g1 : (ka.map (·.1))[x]? = some k := by rw [List.getElem?_map, h1]; rfl
     have g2 : (kb.map (·.1))[x]? = some k' := by rw [List.getElem?_map, h1']; rfl
     rw [hk, g2] at g1
     exact Option.some.inj g1
   subst ek
   show wpAny _ _ (holding [ea[x].key, ea[x].val] _ >>= _) _ _ _
   rw [h2]
   refine wpAny_bind (wpAny_holding (wpAny_bind (find_rows hb db Rb h1' ?_)))
   refine wpAny_bind (wpAny_dictEntries hb db ?_)
   rw [Array.getElem?_eq_getElem hlb]
   refine wpAny_holding (hv x _ _ _ h1 h1' prog w _ _ ?_)
   show wpAny _ _ (if (!true) = true then _ else _) _ _ _
   rw [if_neg (by decide)]
   refine wpAny_bind (wpAny_dictEpoch ha da ?_)
   rw [if_neg (by simp)]
   exact wpAny_pure ⟨rfl, rfl, x + 1, hrest, hlt⟩
 · rintro q s' ⟨rfl, rfl, i, hr, hi⟩
   exact wpAny_pure h
end
section
variable {A : Around} {s : Shared}
theorem eqAt_dicts {P : Program} {v : World} {a b : Addr} {oa ob : Obj} {ka kb : List (Str × Value)} (ha : s.heap.get? a = some oa) (hb : s.heap.get? b = some ob) (la : (a == sysModules) = false) (lb : (b == sysModules) = false) (da : oa.IsDictOf (strKind P v) ka) (db : ob.IsDictOf (strKind P v) kb)
   (hu : A.units < cLine) (hk : ka.map (·.1) = kb.map (·.1)) (hv : ∀ (i : Nat) (k : Str) (v y : Value), ka[i]? = some (k, v) → kb[i]? = some (k, y) → SeqAt.EqAt A.in1 s v y true) : SeqAt.EqAt A s (.ref a) (.ref b) true := fun prog w E Q h => by
 obtain ⟨ea, pa, ca, ha2, Ra⟩ := Rows3.of da
 obtain ⟨eb, pb, cb, hb2, Rb⟩ := Rows3.of db
 have ta : s.TypeIs (.ref a) "dict" := ⟨oa, ha, ca⟩
 have tb : s.TypeIs (.ref b) "dict" := ⟨ob, hb, cb⟩
 unfold eqBool
 refine wpAny_holding ?_
 refine wpAny_ite_split (fun hab => wpAny_bind (wpAny_rule (wpAny_pure h))) (fun _ => ?_)
 refine wpAny_bind (wpAny_richCompare_same_room (op := .Eq) ta tb PySem.F.slot_dict_eq (wpAny_call_entry PySem.F.slot_dict_eq ta PySem.F.entry_dict_eq ?_ (PySem.F.args_dict_eq_2 _ _)) hu)
 show wpAny _ _ (Builtin.Dict.dictSlotArgs "__eq__" ⟨[.ref a, .ref b], []⟩ >>= _) _ _ s
 refine wpAny_bind ?_
 unfold Builtin.Dict.dictSlotArgs
 refine wpAny_bind (wpAny_notOrdered_dict ta ?_)
 show wpAny _ _ (pure (Value.ref a, Value.ref b)) _ _ s
 refine wpAny_pure ?_
 refine wpAny_bind (wpAny_isInstance (T := "dict") tb PySem.F.sub_dict_dict ?_)
 simp only [Bool.not_true, Bool.false_eq_true, if_false]
 refine wpAny_bind (wpAny_pure (wpAny_bind (wpAny_pure ?_)))
 refine wpAny_bind (same_rows la lb ha hb ha2 hb2 Ra Rb hk hv ?_)
 refine wpAny_pure ⟨_, rfl, ?_, ?_⟩
 · exact fun x => nomatch x
 · exact wpAny_truthy_bool h
end
end
section
theorem blindC {α : Type} {M : Model} {A : Around} {t : Sem α} {Q : α → Shared → Prop} {E : Value → Shared → Prop} {s : Shared} (k : ∀ Q' : α → Shared → Prop, Bl Q Q' → wpC M A t Q' E s) : wpC M A t Q E s := k Q fun _ _ h => h
theorem zcompAF {prog : Program} {w : World} {A : Around} {h₀ : Heap} {env : Env} {s : Shared} {target : Expr} {L : Addr} {m : Str → Option Value} {E : Value → Shared → Prop} {Q : Flow → Shared → Prop} {y : Str} {py spos : Pos} {elt iter : Expr} {ifs : List Expr} {rest : List Comprehension} {scope : Scope} {cl : List (Str × Addr)} {pos : Pos} (_ : Fr h₀ L s.heap m)
   (hLe : env.locals = L) (hsw : swapsWith (.ListComp elt (⟨target, iter, ifs, 0⟩ :: rest) scope pos) (some (.Name y py)) spos.line env = pure true)
   (hclos : closureFor scope env = pure cl) (hcell : ∀ y ∈ scope.names, y.2 ≠ .cell) (hkind : scope.kind = .function) (hnames : ∀ y ∈ scope.names, y.2 = .local → scope.names.lookup y.1 = some .local)
   (hy : env.kindOf y = some .local) (hp : (env.scope.kind == .class || (env.scope.kind == .module && env.locals != env.globals)) = false)
   (h : wpAny (model prog w) A (eval iter env) (fun xv s₁ => wpAny (model prog w) A (pyIter xv) (CStart prog w A h₀ L m env elt (⟨target, iter, ifs, 0⟩ :: rest) scope cl pos (fun D news s₂ => ∀ h' tk, Fr h₀ L h' (fun z => if z = y then some (.ref D) else m z) → News h₀ L h' news → Q .next { s₂ with heap := h', toks := tk })) E s₁) E s)
   (hs : ∀ x, foldedSetIterable iter env x = pure x := by intro _; rfl) :
   wpAny (model prog w) A (exec (.Assign [.Name y py] (.ListComp elt (⟨target, iter, ifs, 0⟩ :: rest) scope pos) spos) env) Q E s := zcompA hLe hsw hclos hcell hkind hnames hy hp h hs
theorem map_at {α β : Type} {f : α → β} {l : List α} {i : Nat} {y : β} (h : (l.map f)[i]? = some y) : ∃ x, l[i]? = some x ∧ f x = y := by
 rw [List.getElem?_map] at h
 exact Option.map_eq_some_iff.mp h
theorem fdiv_nat (k n : Nat) : (Int.ofNat k).fdiv ((n : Nat) : Int) = ((k / n : Nat) : Int) := by
 rw [Int.fdiv_eq_ediv_of_nonneg _ (Int.natCast_nonneg _)]; rfl
theorem fmod_nat (k n : Nat) : (Int.ofNat k).fmod ((n : Nat) : Int) = ((k % n : Nat) : Int) := by
 rw [Int.fmod_eq_emod_of_nonneg _ (Int.natCast_nonneg _)]; rfl
theorem mid_nat (k : Nat) : ((Int.ofNat k).fdiv 3).fmod 3 = ((k / 3 % 3 : Nat) : Int) := by
 rw [show (Int.ofNat k).fdiv 3 = Int.ofNat (k / 3) from fdiv_nat k 3]
 exact fmod_nat _ 3
noncomputable def othN (codes : List Nat) (i : Nat) : List Nat := ((List.range i).filter fun k => decide (k ∉ codes)).flatMap d3
theorem othN_in {codes : List Nat} {i : Nat} (h : i ∈ codes) : othN codes (i + 1) = othN codes i := by
 unfold othN
 rw [List.range_succ, List.filter_append, List.filter_cons, if_neg (by simpa using h)]
 simp
theorem othN_out {codes : List Nat} {i : Nat} (h : i ∉ codes) : othN codes (i + 1) = othN codes i ++ d3 i := by
 unfold othN
 rw [List.range_succ, List.filter_append, List.filter_cons, if_pos (by simpa using h), List.flatMap_append]
 simp
theorem othN_len (codes : List Nat) (i : Nat) : (othN codes i).length ≤ 3 * i := by
 induction i with
 | zero => exact Nat.le_refl _
 | succ i ih =>
   by_cases c : i ∈ codes
   · rw [othN_in c]; exact Nat.le_trans ih (Nat.mul_le_mul_left 3 (Nat.le_succ i))
   · rw [othN_out c, List.length_append]
     exact Nat.add_le_add_right ih 3
theorem any_codes (codes : List Nat) (i : Nat) : ((codes.map Int.ofNat).any (· == (0 + (i : Int) * 1))) = decide (i ∈ codes) := by
 rw [show (0 + (i : Int) * 1) = Int.ofNat i from zi _]
 rw [List.any_map]
 by_cases c : i ∈ codes
 · rw [decide_eq_true c, List.any_eq_true]
   exact ⟨i, c, beq_self_eq_true _⟩
 · rw [decide_eq_false c, List.any_eq_false]
   exact fun x hx e => c (by have := Int.ofNat.inj (eq_of_beq e); rw [← this]; exact hx)
structure PtsJ (Z0 : List (Addr × Obj)) (codes : List Nat) (i : Nat) (ys : List Value) (nw : List (Addr × Obj)) : Prop where
 up : ∀ q ∈ Z0, q ∈ nw
 tk : TakenIs nw ((codes.take i).map digOf) ys
theorem Hold.all {cl : List (Str × Addr)} {led P : List (Addr × Obj)} {cv : Str → Option Value} {h₀ h : Heap} {L : Addr} (N : News h₀ L h led) (H : Hold cl led P cv) : Hold cl led (led.filter notCell) cv :=
 ⟨fun q hq => (List.mem_filter.mp hq).1, fun q hq x c hc e => by
   obtain ⟨h1, h2⟩ := List.mem_filter.mp hq
   obtain ⟨o, k1, k2⟩ := H.cell x c hc
   have g1 := (N q h1).1
   rw [show q.1 = c from e, (N _ k1).1] at g1
   exact notCell_ne h2 _ ((congrArg Obj.data (Option.some.inj g1)).symm.trans k2), H.cell⟩
theorem codesFrom {o : Array UInt8} {es : Array (Int × Value)} {ns : List Int} (hp : ns.Perm (keysOf es)) (hn : (keysOf es).Nodup) (hm : ∀ x, x ∈ keysOf es ↔ ∃ j, j < 5 ∧ x = ((codeAt o j : Nat) : Int)) (hz : es.size ≤ 5) :
   ∃ codes : List Nat, ns = codes.map Int.ofNat ∧ codes.Nodup ∧ (∀ x, x ∈ codes ↔ ∃ i, i < 5 ∧ x = codeAt o i) ∧ codes.length ≤ 5 := by
 have mem : ∀ x, x ∈ ns ↔ ∃ j, j < 5 ∧ x = ((codeAt o j : Nat) : Int) := fun x => hp.mem_iff.trans (hm x)
 refine ⟨ns.map Int.toNat, ?_, ?_, fun x => ?_, ?_⟩
 · rw [List.map_map]
   refine (List.map_id ns).symm.trans (List.map_congr_left fun x hx => ?_)
   obtain ⟨j, _, rfl⟩ := (mem x).mp hx
   rfl
 · show List.Pairwise _ _
   rw [List.pairwise_map]
   refine List.Pairwise.imp_of_mem (fun {x y} hx hy hxy q => hxy ?_) (hp.symm.nodup hn)
   obtain ⟨j, _, rfl⟩ := (mem x).mp hx
   obtain ⟨k, _, rfl⟩ := (mem y).mp hy
   exact congrArg Int.ofNat q
 · rw [List.mem_map]
   constructor
   · rintro ⟨y, hy, rfl⟩
     obtain ⟨j, hj, rfl⟩ := (mem y).mp hy
     exact ⟨j, hj, rfl⟩
   · rintro ⟨j, hj, rfl⟩
     exact ⟨_, (mem _).mpr ⟨j, hj, rfl⟩, rfl⟩
 · rw [List.length_map, hp.length_eq]
   unfold keysOf
   rw [List.length_map, Array.length_toList]
   exact hz
theorem CNextM.one {h₀ h' : Heap} {L : Addr} {m m₂ : Str → Option Value} {ow : List Addr} {C D T : Addr} {ob oC : Obj} {o nw : List (Addr × Obj)} {ys : List Value} {Jn : (Str → Option Value) → List (Addr × Obj) → Prop} {s : Shared} {tk : Nat}
   (hC : LCg.NsObj oC m₂) (F : Fr h₀ L h' m) (N : News h₀ L h' ((T, ob) :: (C, oC) :: (D, listOf ys.toArray ys.length) :: ([] ++ (o ++ nw)))) (l : @LT.lt Nat _ C T ∧ @LT.lt Nat _ D T ∧ AllLt T ([] ++ (o ++ nw))) (hlv : ∀ a ∈ ow, ∃ ob, (a, ob) ∈ o) (hnn : ∀ p ∈ nw, p.1 ∉ C :: D :: ow) (hJ : Jn m₂ ((T, ob) :: nw)) :
   CNextM h₀ L m ow C D o ys Jn s { s with heap := h', toks := tk } := by
 refine CNextM.intro (news₂ := (T, ob) :: nw) hC F N (.tail _ (.head _)) (.tail _ (.tail _ (.head _))) (fun p hp => .tail _ (.tail _ (.tail _ (List.mem_append_right [] (List.mem_append_left _ hp))))) (fun p hp => ?_) (fun p hp => ?_) hJ
 · rcases List.mem_cons.mp hp with rfl | hp
   · exact .head _
   · exact .tail _ (.tail _ (.tail _ (List.mem_append_right [] (List.mem_append_right _ hp))))
 · rcases List.mem_cons.mp hp with rfl | hp
   · intro hm
     rcases List.mem_cons.mp hm with e | hm
     · exact Nat.ne_of_gt l.1 e
     · rcases List.mem_cons.mp hm with e | hm
       · exact Nat.ne_of_gt l.2.1 e
       · obtain ⟨oI, mI⟩ := hlv _ hm
         exact Nat.lt_irrefl _ (AllLt.mem l.2.2 _ (List.mem_append_right [] (List.mem_append_left nw mI)))
   · exact hnn p hp
theorem topW {ow : List Addr} {C D T : Addr} {ob oC oD : Obj} {o nw : List (Addr × Obj)} (l : @LT.lt Nat _ C T ∧ @LT.lt Nat _ D T ∧ AllLt T ([] ++ (o ++ nw))) (hCw : C ∉ ow) (hDw : D ∉ ow) (ho : ∀ p ∈ o, p.1 ∈ ow) (hnn : ∀ p ∈ nw, p.1 ∉ C :: D :: ow) :
   ∃ W : List (Addr × Obj), (T, ob) ∈ W ∧ (∀ q ∈ W, q ∈ (T, ob) :: (C, oC) :: (D, oD) :: ([] ++ (o ++ nw)) ∧ q.1 ≠ C ∧ q.1 ≠ D) ∧ (∀ q ∈ o, q ∈ W) ∧ ∀ q ∈ nw, q ∈ W := by
 refine ⟨(T, ob) :: (o ++ nw), .head _, fun q hq => ?_, fun q hq => .tail _ (List.mem_append_left _ hq), fun q hq => .tail _ (List.mem_append_right _ hq)⟩
 rcases List.mem_cons.mp hq with rfl | hq
 · exact ⟨.head _, Nat.ne_of_gt l.1, Nat.ne_of_gt l.2.1⟩
 · refine ⟨.tail _ (.tail _ (.tail _ hq)), ?_⟩
   rcases List.mem_append.mp hq with hq | hq
   · exact ⟨fun e => hCw (e ▸ ho q hq), fun e => hDw (e ▸ ho q hq)⟩
   · exact ⟨fun e => hnn q hq (e ▸ .head _), fun e => hnn q hq (e ▸ .tail _ (.head _))⟩
theorem dig_at {i d : Nat} {a b c : Tok} {v : Value} (h : (#[Value.int ((0 + (i : Int) * 1).fdiv 9) a, Value.int (((0 + (i : Int) * 1).fdiv 3).fmod 3) b, Value.int ((0 + (i : Int) * 1).fmod 3) c] : Array Value)[d]? = some v) : ∃ z u, v = .int (Int.ofNat z) u ∧ (d3 i)[d]? = some z := by
 rw [show (0 + (i : Int) * 1) = Int.ofNat i from zi _] at h
 rcases d with _ | _ | _ | n
 · exact ⟨i / 9, a, by rw [← Option.some.inj h]; exact congrArg (fun z => Value.int z a) (fdiv_nat i 9), rfl⟩
 · exact ⟨i / 3 % 3, b, by rw [← Option.some.inj h]; exact congrArg (fun z => Value.int z b) (mid_nat i), rfl⟩
 · exact ⟨i % 3, c, by rw [← Option.some.inj h]; exact congrArg (fun z => Value.int z c) (fmod_nat i 3), rfl⟩
 · simp at h
theorem intsS {vs : List Value} {ns : List Int} {n : Int} {t : Tok} (h : IntsAre vs ns) : IntsAre (vs ++ [.int n t]) (ns ++ [n]) := by
 induction h with
 | nil => exact .cons _ _ .nil
 | cons _ _ _ ih => exact .cons _ _ ih
theorem oth_snoc {codes : List Nat} {i d z : Nat} {ys : List Value} {u : Tok} (h : IntsAre ys ((othN codes i ++ (d3 i).take d).map Int.ofNat)) (hz : (d3 i)[d]? = some z) : IntsAre (ys ++ [.int (Int.ofNat z) u]) ((othN codes i ++ (d3 i).take (d + 1)).map Int.ofNat) := by
 rw [List.take_add_one, hz, ← List.append_assoc, List.map_append]
 exact intsS h
theorem d3_lt {k : Nat} (h : k < 27) : ∀ v ∈ d3 k, v < 27 := ac (Nat.lt_of_le_of_lt (Nat.div_le_self _ _) h) (ac (Nat.lt_trans (Nat.mod_lt _ (by decide)) (by decide)) (ac (Nat.lt_trans (Nat.mod_lt _ (by decide)) (by decide)) ac0))
theorem oth_small {codes : List Nat} : ∀ n ∈ (othN codes 27).map Int.ofNat, 0 ≤ n ∧ n < 256 := fun n hn => by
 obtain ⟨x, hx, rfl⟩ := List.mem_map.mp hn
 obtain ⟨k, hk, hx⟩ := List.mem_flatMap.mp hx
 have := List.mem_range.mp (List.mem_filter.mp hk).1
 exact ⟨Int.natCast_nonneg _, Int.ofNat_lt.mpr (Nat.lt_trans (d3_lt this x hx) (by decide))⟩
theorem PtsJ.next {Z0 : List (Addr × Obj)} {codes : List Nat} {i k : Nat} {ys : List Value} {nw : List (Addr × Obj)} {T : Addr} {a b c : Tok} {z : Nat} (H : PtsJ Z0 codes i ys nw) (hk : codes[i]? = some k) :
   PtsJ Z0 codes (i + 1) (ys ++ [.ref T]) ((T, tupO #[Value.int ((Int.ofNat k).fdiv 9) a, Value.int (((Int.ofNat k).fdiv 3).fmod 3) b, Value.int ((Int.ofNat k).fmod 3) c] z) :: nw) := ⟨fun q hq => .tail _ (H.up q hq), by
 rw [List.take_add_one, hk]
 rw [List.map_append]
 exact H.tk.snoc (t := digOf k) (fdiv_nat k 9) (mid_nat k) (fmod_nat k 3)⟩
theorem Hold.pass {cl : List (Str × Addr)} {Z Z' : List (Addr × Obj)} {cv : Str → Option Value} {h₀ h : Heap} {L : Addr} {F : List Addr} (H : Hold cl Z (Z.filter notCell) cv) (N : News h₀ L h Z') (hk : ∀ q ∈ Z, q.1 ∉ F → q ∈ Z') (hF : ∀ a ∈ F, ∃ o, (a, o) ∈ Z ∧ notCell (a, o) = true) : Hold cl Z' (Z'.filter notCell) cv :=
 Hold.all N (P := []) ⟨fun _ h => (nomatch h), fun _ h => (nomatch h), fun x c hc => by
   obtain ⟨o, k1, k2⟩ := H.cell x c hc
   refine ⟨o, hk _ k1 fun hm => ?_, k2⟩
   obtain ⟨o', m1, m2⟩ := hF c hm
   exact H.off _ (List.mem_filter.mpr ⟨m1, m2⟩) x c hc rfl⟩
theorem hungT_eq {P : Program} {w : World} {A : Around} {h₀ : Heap} {L : Addr} {led : List (Addr × Obj)} {s : Shared} (N : News h₀ L s.heap led) {T T' d d' : Addr} {o o' : Obj} {z z' : Nat} {tt tt' tm tv tn tm' tv' tn' : Tok} {x y : Int} (k : (T, tupO #[Value.str "joint" tt, .ref d] z) ∈ led) (k' : (T', tupO #[Value.str "joint" tt', .ref d'] z') ∈ led)
   (md : (d, o) ∈ led) (md' : (d', o') ∈ led) (ld : (d == sysModules) = false) (ld' : (d' == sysModules) = false) (hd : o.IsDictOf (strKind P w) [("mark", .int 7 tm), ("value", .int x tv), ("name", .int y tn)]) (hd' : o'.IsDictOf (strKind P w) [("mark", .int 7 tm'), ("value", .int x tv'), ("name", .int y tn')]) (hu : A.units + 2 < cLine) : SeqAt.EqAt A s (.ref T) (.ref T') true := by
 by_cases e : T = T'
 · subst e
   exact .same _
 · refine .of_refs e ?_
   refine SeqAt.RcAt.tuples (A := A) (s := s) (e := fun _ => true) ⟨_, (N _ k).1, rfl, _, rfl⟩ ⟨_, (N _ k').1, rfl, _, rfl⟩ (by omega) fun j h1 h2 => ?_
   have h1' : j < 2 := h1
   have : j = 0 ∨ j = 1 := by omega
   rcases this with rfl | rfl
   · exact SeqAt.EqAt.str_str _ _ _ _
   · refine eqAt_dicts (N _ md).1 (N _ md').1 ld ld' hd hd' (by show A.units + 1 < cLine; omega) rfl fun i k v y h h' => ?_
     rcases i with _ | _ | _ | n
     · cases h; cases h'; exact SeqAt.EqAt.int_int _ _ _ _
     ·
       cases h; cases h'
       have := SeqAt.EqAt.int_int (A := A.in1.in1) (s := s) x tv x tv'
       rwa [beq_self_eq_true] at this
     ·
       cases h; cases h'
       have := SeqAt.EqAt.int_int (A := A.in1.in1) (s := s) y tn y tn'
       rwa [beq_self_eq_true] at this
     · simp at h
theorem hung_same {w : World} {A : Around} {h₀ : Heap} {L : Addr} {led : List (Addr × Obj)} {s : Shared} {E : Value → Shared → Prop} {Q : Value → Shared → Prop} (N : News h₀ L s.heap led) {hs ds : Addr} {hv dv : List Value} {n k : Nat} (mH : (hs, listOf hv.toArray n) ∈ led) (mD : (ds, listOf dv.toArray k) ∈ led)
   {st st' : List (Addr × Obj)} {Es : List Nd} {S : List (List Nat × Nat)} (hst : ∀ q ∈ st, q ∈ led) (hst' : ∀ q ∈ st', q ∈ led) (HI : HungIs st Es hv) (hat : ∀ e ∈ Es, ∃ oa, (e.a, oa) ∈ st ∧ (e.a == sysModules) = false ∧ oa.IsDictOf (PySem.strKind PySem.Challenge.rw_wy0029_01.row.prog w) [("mark", .int 7 e.tm), ("value", .int (e.p.getLast?.getD 0 : Nat) e.tv), ("name", .int e.nm e.tn)])
   (HD : DueIs w st' S dv) (ht : tellOf Es = S) (hu : A.units + 4 < cLine) (h : Q (.bool false) s) : wpAny (model PySem.Challenge.rw_wy0029_01.row.prog w) A (compareOp .NotEq (.ref hs) (.ref ds)) Q E s := by
 have hl : Es.length = S.length := by rw [← ht]; simp [tellOf]
 have hz : hv.toArray.size = dv.toArray.size := by rw [List.size_toArray, List.size_toArray, HI.1, HD.1, hl]
 have key := SeqAt.RcNeAt.lists (A := A) (s := s) (e := fun _ => true) (News.isList N mH) (News.isList N mD) hz (by omega) fun j h1 h2 => by
   have hj : j < Es.length := by rw [List.size_toArray, HI.1] at h1; exact h1
   refine x3a2 (HI.2 j _ (List.getElem?_eq_getElem hj)) ?_; rintro T tt z g1 g2
   have hS : S[j]? = some (Es[j].p, Es[j].nm) := by
     rw [← ht]
     show (Es.map fun e => (e.p, e.nm))[j]? = _
     rw [List.getElem?_map, List.getElem?_eq_getElem hj]
     rfl
   refine x8a5 (HD.2 j _ hS) ?_; rintro T' tt' z' d o tm tv tn g3 g4 g5 g6 g7
   refine x1a3 (hat _ (List.getElem_mem hj)) ?_; rintro oa a1 a2 a3
   have e1 : hv.toArray[j] = .ref T := by
     have : hv.toArray[j]? = some (.ref T) := by simpa using g1
     exact (Array.getElem?_eq_some_iff.mp this).2
   have e2 : dv.toArray[j] = .ref T' := by
     have : dv.toArray[j]? = some (.ref T') := by simpa using g3
     exact (Array.getElem?_eq_some_iff.mp this).2
   rw [e1, e2]
   exact hungT_eq N (hst _ g2) (hst' _ g4) (hst _ a1) (hst' _ g5) a2 g6 a3 g7 (by show A.units + 1 + 2 < cLine; omega)
 have e : (!(List.range hv.toArray.size).all fun _ => true) = false := by simp
 rw [e] at key
 show wpAny _ A (richCompare .NotEq _ _) Q E s
 exact key _ w E Q h
theorem taken_ne {w : World} {A : Around} {h₀ : Heap} {L : Addr} {led : List (Addr × Obj)} {s : Shared} {E : Value → Shared → Prop} {Q : Value → Shared → Prop} (N : News h₀ L s.heap led) {a b : Addr} {av bv : List Value} {n k : Nat} (mA : (a, listOf av.toArray n) ∈ led) (mB : (b, listOf bv.toArray k) ∈ led) {T : List Mon} (hA : TakenIs led T av) (hB : TakenIs led T bv)
   (hu : A.units + 4 < cLine) (h : Q (.bool false) s) : wpAny (model PySem.Challenge.rw_wy0029_01.row.prog w) A (compareOp .NotEq (.ref a) (.ref b)) Q E s := by
 have hz : av.toArray.size = bv.toArray.size := by rw [List.size_toArray, List.size_toArray, hA.1, hB.1]
 have key := SeqAt.RcNeAt.lists (A := A) (s := s) (e := fun _ => true) (News.isList N mA) (News.isList N mB) hz (by omega) fun j h1 h2 => by
   refine x2a3 (hA.get (i := j) (v := av[j]'(by rw [List.size_toArray] at h1; exact h1)) (by rw [List.size_toArray] at h1; exact List.getElem?_eq_getElem h1)) ?_; rintro t T1 g1 g2 g3
   refine x2a3 (hB.get (i := j) (v := bv[j]'(by rw [List.size_toArray] at h2; exact h2)) (by rw [List.size_toArray] at h2; exact List.getElem?_eq_getElem h2)) ?_; rintro t' T2 g1' g2' g3'
   rw [g1] at g1'
   cases g1'
   have e1 : av.toArray[j] = .ref T1 := by simpa using g2
   have e2 : bv.toArray[j] = .ref T2 := by simpa using g2'
   rw [e1, e2]
   have := eqAt_tup (A := A.in1) N g3 g3' (by show A.units + 1 < cLine; omega)
   rwa [decide_eq_true rfl] at this
 have e : (!(List.range av.toArray.size).all fun _ => true) = false := by simp
 rw [e] at key
 show wpAny _ A (richCompare .NotEq _ _) Q E s
 exact key _ w E Q h
theorem oth_bytes (codes : List Nat) : ((((othN codes 27).map Int.ofNat).map fun n => n.toNat.toUInt8).toArray).toList.map UInt8.toNat = ((List.range 27).filter fun k => decide (k ∉ codes)).flatMap d3 := by
 show List.map UInt8.toNat (List.map (fun n : Int => n.toNat.toUInt8) ((othN codes 27).map Int.ofNat)) = othN codes 27
 rw [List.map_map, List.map_map]
 refine (List.map_congr_left fun x hx => ?_).trans (List.map_id _)
 have : x < 27 := by
   obtain ⟨k, hk, hx⟩ := List.mem_flatMap.mp hx
   have := List.mem_range.mp (List.mem_filter.mp hk).1
   exact d3_lt this x hx
 show (Nat.toUInt8 x).toNat = x
 rw [Nat.toUInt8_eq, UInt8.toNat_ofNat']
 exact Nat.mod_eq_of_lt (Nat.lt_trans this (by decide))
theorem news_at {h₀ h : Heap} {L a : Addr} {o : Obj} {Z : List (Addr × Obj)} (N : News h₀ L h Z) (m : (a, o) ∈ Z) : News h₀ L h ((a, o) :: Z.filter fun q => decide (q.1 ≠ a)) := fun p hp => N p (by
 rcases List.mem_cons.mp hp with rfl | hp
 · exact m
 · exact (List.mem_filter.mp hp).1)
theorem bush_rest {w : World} {wv : List Value} {rt tb ws hs a : Addr} {otb : Obj} {t5 t6 : Tok} {K : List (Addr × Obj)} {I : List Addr} {tk : Nat} {led st : List (Addr × Obj)} {Ns : List Nd} {S : List (List Nat × Nat)} (B : BI w wv rt tb ws hs otb t5 t6 K I tk led st Ns S) (hI : a ∈ I) : BushAt w (led.filter fun q => decide (q.1 ≠ a)) st Ns := by
 obtain ⟨⟨ob, hk⟩, hst⟩ := B.iap a hI
 exact B.bush.led fun q hq h => List.mem_filter.mpr ⟨hq, decide_eq_true fun e => h.elim (fun hs => hst q hs e) fun ⟨e', he, q1⟩ => (B.kap _ hk).2.2.2 e' he (e.symm.trans q1)⟩
theorem bush_root {w : World} {wv : List Value} {rt tb ws hs : Addr} {otb : Obj} {t5 t6 : Tok} {K : List (Addr × Obj)} {I : List Addr} {tk : Nat} {led st : List (Addr × Obj)} {Ns : List Nd} {S : List (List Nat × Nat)} (B : BI w wv rt tb ws hs otb t5 t6 K I tk led st Ns S) : ∃ e₀ ∈ Ns, e₀.t = rt ∧ e₀.p = [] := by
 refine x2a2 (B.root) ?_; rintro e₀ es hNs hrt
 have ht := B.tell
 rw [hNs] at ht
 injection ht with h1 _
 exact ⟨e₀, by rw [hNs]; exact .head _, hrt, congrArg Prod.fst h1⟩
theorem TakenIs.pass {h₀ h : Heap} {L : Addr} {Z Z' : List (Addr × Obj)} {F : List Addr} {ts : List Mon} {vs : List Value} (N : News h₀ L h Z) (hT : TakenIs Z ts vs) (hk : ∀ q ∈ Z, q.1 ∉ F → q ∈ Z') (hF : ∀ a ∈ F, ∃ o : Obj, (a, o) ∈ Z ∧ o.cls ≠ .type "tuple") : TakenIs Z' ts vs := ⟨hT.1, fun i t ht => by
 refine x5a2 (hT.2 i t ht) ?_; rintro T a b c z k1 k2
 refine ⟨T, a, b, c, z, k1, hk _ k2 fun hm => ?_⟩
 obtain ⟨o, m1, m2⟩ := hF T hm
 have g1 := (N _ k2).1
 rw [(N _ m1).1] at g1
 exact m2 (congrArg Obj.cls (Option.some.inj g1))⟩
theorem wpC_callWith_K {prog : Program} {w : World} {A : Around} {s : Shared} {E : Value → Shared → Prop} {Q : Value → Shared → Prop} {K : Frag} {pos : Pos} {a : Addr} {oc : Value} {od : Option Addr} {osl : Array (Option Value)} {fd : FuncData} {first : List Value} {args : List (Bool × Sem Value)} (ho : K.lookup a = some ⟨oc, od, .func fd, osl⟩)
   (h : wpC (model prog w) A (evalArgs (.ref a) true args []) (fun x s₁ => K.In s₁.heap ∧ wpC (model prog w) A (call (.ref a) (first ++ x.pos) x.kw) Q E s₁) E s) (hpl : args.any (·.1) = false) (hlen : args.length ≤ 30) :
   wpC (model prog w) A (callWith pos (.ref a) first args []) Q E s :=
 wpC_callWith_fn (o := ⟨oc, od, .func fd, osl⟩) (fd := fd) (wpC_mono h (fun _ _ x => ⟨⟨x.1 _ _ ho, rfl⟩, x.2⟩) fun _ _ x => x) hpl hlen
structure TkSt (w : World) (Z2 : List (Addr × Obj)) (ws hs tl : Addr) (T : List Mon) (tb : Array UInt8) (c1 c2 d1 d2 : Addr) : Prop where
 t104 : (104, tabObj (tab2 c1 c2)) ∈ Z2
 t123 : (123, tabObj (tabT d1 d2)) ∈ Z2
 code : ∃ oc vs t, (c2, oc) ∈ Z2 ∧ oc.data = .fields vs ∧ vs[1]? = some (.str ("_law_thing.<locals>.<lambda>" : Str) t) ∧ @Ne Nat c2 104 ∧ c2 ≠ ws ∧ c2 ≠ hs ∧ @Ne Nat c2 123
 d1 : CodeT d1 Z2
 d2 : CodeT d2 Z2
 words : ∃ us n, (ws, listOf (List.toArray us) n) ∈ Z2 ∧ us.length ≤ 60 ∧ ∀ v ∈ us, ∃ t, v = .str wordMsg t
 hung : ∃ hv n st Es, (hs, listOf (List.toArray hv) n) ∈ Z2 ∧ (∀ q ∈ st, q ∈ Z2) ∧ HungIs st Es hv ∧ tellOf Es = growN tb 5 ∧ ∀ e ∈ Es, ∃ oa, (e.a, oa) ∈ st ∧ (e.a == sysModules) = false ∧ oa.IsDictOf (PySem.strKind PySem.Challenge.rw_wy0029_01.row.prog w) [("mark", .int 7 e.tm), ("value", .int (e.p.getLast?.getD 0 : Nat) e.tv), ("name", .int e.nm e.tn)]
 taken : ∃ tv n, (tl, listOf (List.toArray tv) n) ∈ Z2 ∧ TakenIs Z2 T tv
theorem tkst {w : World} {rt tb ws hs tl : Addr} {otb : Obj} {t5 t6 : Tok} {tk : Nat} {Z led st led2 : List (Addr × Obj)} {Ns : List Nd} {b : Array UInt8} {d1 d2 : Addr} {takenV : List Value} {n : Nat} {T : List Mon} (f : @Ne Nat 104 ws ∧ @Ne Nat 104 hs ∧ @Ne Nat 123 ws ∧ @Ne Nat 123 hs)
   (B : BI w [] rt tb ws hs otb t5 t6 ((Z.filter fun q => decide (q.1 ≠ 104)).filter fun q => decide (q.1 ≠ ws ∧ q.1 ≠ hs)) [123] tk led st Ns (growN b 5)) (hrest : ∀ q ∈ led.filter fun q => decide (q.1 ≠ 123), q ∈ led2) (h123 : (123, tabObj (tabT d1 d2)) ∈ led2) (c1 : CodeT d1 led2) (c2 : CodeT d2 led2) (mtl : (tl, listOf takenV.toArray n) ∈ led2) (hT : TakenIs led2 T takenV) :
   (∀ q ∈ Z, q.1 ∉ [104, ws, hs, 123] → q ∈ led2) ∧ ∃ k1 k2, TkSt w led2 ws hs tl T b k1 k2 d1 d2 := by
 have up : ∀ q ∈ led, @Ne Nat q.1 123 → q ∈ led2 := fun q hq h => hrest q (List.mem_filter.mpr ⟨hq, decide_eq_true h⟩)
 have st123 : ∀ q ∈ st, @Ne Nat q.1 123 := (B.iap 123 (.head _)).2
 have stl : ∀ q ∈ st, q ∈ led2 := fun q hq => up q (B.bush.sub q hq) (st123 q hq)
 obtain ⟨k1, k2, g1, oc, vs, t, g2, g3, g4⟩ := B.tab
 refine x2a3 (B.words) ?_; rintro us m w1 w2 w3
 refine x2a2 (B.hung) ?_; rintro hv m' u1 u2
 refine x2a2 (B.root) ?_; rintro e₀ es hNs _
 have ht := B.tell
 rw [hNs] at ht
 injection ht with _ ht
 have hlen := growN_len b 5
 refine ⟨fun q hq hF => ?_, k1, k2, up _ g1 (show @Ne Nat 104 123 by decide), h123, ⟨oc, vs, t, stl _ g2, g3, g4, B.bush.n104.2 _ g2, (B.stap _ g2).1, (B.stap _ g2).2, st123 _ g2⟩, c1, c2, ⟨us, m, up _ (by rw [List.nil_append] at w1; exact w1) (Ne.symm f.2.2.1), by omega, w3⟩,
   ⟨hv, m', st, Ns.tail, up _ u1 (Ne.symm f.2.2.2), stl, u2, by rw [hNs]; exact ht, fun e he => ?_⟩, ⟨takenV, n, mtl, hT⟩⟩
 · simp only [List.mem_cons, List.not_mem_nil, or_false, not_or] at hF
   exact up q (B.keep q (List.mem_filter.mpr ⟨List.mem_filter.mpr ⟨hq, decide_eq_true hF.1⟩, decide_eq_true ⟨hF.2.1, hF.2.2.1⟩⟩)) hF.2.2.2
 · have hm : e ∈ Ns := by rw [hNs] at he ⊢; exact .tail _ he
   refine B.bush.attr e hm fun hp => ?_
   have : (e.p, e.nm) ∈ growN b 5 := by
     rw [← show tellOf es = growN b 5 from ht]
     rw [hNs] at he
     exact List.mem_map.mpr ⟨e, he, rfl⟩
   refine x2a3 (growN_mem this) ?_; rintro i d _ hd h3
   have h4 : e.p = (ptOf b i).take (d + 1) := congrArg Prod.fst h3
   rw [hp] at h4
   cases h4
theorem TakenIs.nc {Z : List (Addr × Obj)} {ts : List Mon} {vs : List Value} (h : TakenIs Z ts vs) : TakenIs (Z.filter notCell) ts vs := ⟨h.1, fun i t ht => x5a2 (h.2 i t ht) fun T a b c z k1 k2 => ⟨T, a, b, c, z, k1, List.mem_filter.mpr ⟨k2, rfl⟩⟩⟩
theorem nc_fields {c : Addr} {oc : Obj} {vs : Array Value} (h : oc.data = .fields vs) : notCell (c, oc) = true := by unfold notCell; rw [h]
theorem TkSt.move {w : World} {Z2 Z3 : List (Addr × Obj)} {ws hs tl : Addr} {T : List Mon} {tb : Array UInt8} {c1 c2 d1 d2 : Addr} (S : TkSt w Z2 ws hs tl T tb c1 c2 d1 d2) (h : ∀ q ∈ Z2, notCell q = true → q ∈ Z3) : TkSt w Z3 ws hs tl T tb c1 c2 d1 d2 := by
 obtain ⟨t1, t2, ⟨oc, vs, t, g1, g2, g3⟩, ⟨oe, ve, te, e1, e2, e3⟩, ⟨of, vf, tf, f1, f2, f3⟩, ⟨us, n, w1, w2, w3⟩, ⟨hv, m, st, Es, u1, u2, u3, u4, u5⟩, tv, k, v1, v2⟩ := S
 refine ⟨h _ t1 rfl, h _ t2 rfl, ⟨oc, vs, t, h _ g1 (nc_fields g2), g2, g3⟩, ⟨oe, ve, te, h _ e1 (nc_fields e2), e2, e3⟩, ⟨of, vf, tf, h _ f1 (nc_fields f2), f2, f3⟩, ⟨us, n, h _ w1 rfl, w2, w3⟩,
   ⟨hv, m, st.filter notCell, Es, h _ u1 rfl, fun q hq => h q (u2 q (List.mem_filter.mp hq).1) (List.mem_filter.mp hq).2, ⟨u3.1, fun i e he => ?_⟩, u4, fun e he => ?_⟩, tv, k, h _ v1 rfl, v2.nc.more fun q hq => h q (List.mem_filter.mp hq).1 (List.mem_filter.mp hq).2⟩
 · refine x3a2 (u3.2 i e he) ?_; rintro T tt z x1 x2
   exact ⟨T, tt, z, x1, List.mem_filter.mpr ⟨x2, rfl⟩⟩
 · refine x1a3 (u5 e he) ?_; rintro oa x1 x2 x3
   refine ⟨oa, List.mem_filter.mpr ⟨x1, ?_⟩, x2, x3⟩
   refine x2a3 x3 ?_; clear x3; rintro es ep _ hd _
   unfold notCell
   rw [hd]
structure Sec (Z : List (Addr × Obj)) (ws tl c2 d1 d2 : Addr) (T : List Mon) (us tv : List Value) (n m : Nat) (oc oe og : Obj) : Prop where
 mw : (ws, listOf us.toArray n) ∈ Z
 lw : us.length ≤ 60
 ww : ∀ v ∈ us, ∃ t, v = .str wordMsg t
 mt : (tl, listOf tv.toArray m) ∈ Z
 tt : TakenIs Z T tv
 k2 : CodeObj2 c2 [(c2, oc)]
 mc : (c2, oc) ∈ Z
 e1 : CodeT d1 [(d1, oe), (d2, og)]
 e2 : CodeT d2 [(d1, oe), (d2, og)]
 me : (d1, oe) ∈ Z ∧ (d2, og) ∈ Z
 ne : ∀ a ∈ [c2, d1, d2, tl], @Ne Nat a 104 ∧ a ≠ ws ∧ @Ne Nat a 123
theorem ob_ne {h₀ h : Heap} {L a b : Addr} {Z : List (Addr × Obj)} {o o' : Obj} (N : News h₀ L h Z) (ma : (a, o) ∈ Z) (mb : (b, o') ∈ Z) (ho : o ≠ o') : a ≠ b := fun e => by
 subst e
 have g := (N _ ma).1
 rw [(N _ mb).1] at g
 exact ho (Option.some.inj g).symm
theorem TkSt.sec {w : World} {h₀ h : Heap} {L : Addr} {Z2 : List (Addr × Obj)} {ws hs tl : Addr} {T : List Mon} {tb : Array UInt8} {c1 c2 d1 d2 : Addr} (N : News h₀ L h Z2) (S : TkSt w Z2 ws hs tl T tb c1 c2 d1 d2) (h0 : 0 < T.length) : ∃ us tv n m oc oe og, Sec Z2 ws tl c2 d1 d2 T us tv n m oc oe og := by
 obtain ⟨t1, t2, ⟨oc, vs, t, g1, g2, g3, g4, g5, _, g6⟩, ⟨oe, ve, te, e1, e2, e3⟩, ⟨og, vf, tf, f1, f2, f3⟩, ⟨us, n, w1, w2, w3⟩, _, tv, k, v1, v2⟩ := S
 have cne : ∀ (d : Addr) (o : Obj) (v : Array Value) (t : Tok), (d, o) ∈ Z2 → o.data = .fields v → v[1]? = some (.str ("_law_taken.<locals>.<lambda>" : Str) t) → @Ne Nat d 104 ∧ d ≠ ws ∧ @Ne Nat d 123 := fun d o v t m1 m2 m3 => by
   refine ⟨ob_ne N m1 t1 fun q => ?_, ob_ne N m1 w1 fun q => ?_, ob_ne N m1 t2 fun q => ?_⟩
   · rw [q] at m2
     injection m2 with q1
     rw [← q1] at m3
     cases Option.some.inj m3
   · rw [q] at m2
     cases m2
   · rw [q] at m2
     injection m2 with q1
     rw [← q1] at m3
     cases Option.some.inj m3
 refine ⟨us, tv, n, k, oc, oe, og, w1, w2, w3, v1, v2, ⟨oc, vs, t, .head _, g2, g3⟩, g1, ⟨oe, ve, te, .head _, e2, e3⟩, ⟨og, vf, tf, .tail _ (.head _), f2, f3⟩, ⟨e1, f1⟩, fun a ha => ?_⟩
 simp only [List.mem_cons, List.not_mem_nil, or_false] at ha
 rcases ha with rfl | rfl | rfl | rfl
 · exact ⟨g4, g5, g6⟩
 · exact cne _ _ _ _ e1 e2 e3
 · exact cne _ _ _ _ f1 f2 f3
 · refine ⟨ob_ne N v1 t1 fun q => ?_, ob_ne N v1 w1 fun q => ?_, ob_ne N v1 t2 fun q => ?_⟩
   · cases congrArg Obj.cls q
   · have q1 := congrArg Obj.data q
     injection q1 with q2 _
     have q3 := congrArg Array.toList q2
     have q3 : tv = us := q3
     refine x5a2 (v2.2 0 T[0] (List.getElem?_eq_getElem h0)) ?_; rintro T' _ _ _ _ x1 _
     rw [q3] at x1
     obtain ⟨t, ht⟩ := w3 _ (List.mem_of_getElem? x1)
     cases ht
   · cases congrArg Obj.cls q
theorem sec_out {w : World} {us : List Value} {rt tb ws lh : Addr} {otb : Obj} {t5 t6 : Tok} {tk : Nat} {Z led st led2 : List (Addr × Obj)} {Ns : List Nd} {S : List (List Nat × Nat)} (f : @Ne Nat 123 ws) (hl : ∀ q ∈ Z, @LT.lt Nat _ q.1 lh)
   (B : BI w us rt tb ws lh otb t5 t6 ((((lh, listOf #[] 0) :: Z).filter fun q => decide (q.1 ≠ 104)).filter fun q => decide (q.1 ≠ ws ∧ q.1 ≠ lh)) [123] tk led st Ns S) (hrest : ∀ q ∈ led.filter fun q => decide (q.1 ≠ 123), q ∈ led2) :
   (∀ q ∈ Z, q.1 ∉ [104, ws, 123] → q ∈ led2) ∧ ∃ us2 n, (ws, listOf (us ++ us2).toArray n) ∈ led2 ∧ us2.length = S.length ∧ ∀ v ∈ us2, ∃ t, v = .str wordMsg t := by
 have up : ∀ q ∈ led, @Ne Nat q.1 123 → q ∈ led2 := fun q hq h => hrest q (List.mem_filter.mpr ⟨hq, decide_eq_true h⟩)
 refine x2a3 (B.words) ?_; rintro us2 m w1 w2 w3
 refine ⟨fun q hq hF => ?_, us2, m, up _ w1 (Ne.symm f), w2, w3⟩
 simp only [List.mem_cons, List.not_mem_nil, or_false, not_or] at hF
 exact up q (B.keep q (List.mem_filter.mpr ⟨List.mem_filter.mpr ⟨.tail _ hq, decide_eq_true hF.1⟩, decide_eq_true ⟨hF.2.1, Nat.ne_of_lt (hl q hq)⟩⟩)) hF.2.2
noncomputable def missN (codes : List Nat) : List Nat := (List.range 27).filter fun k => decide (k ∉ codes)
theorem missN_mem {codes : List Nat} (k : Nat) : k ∈ missN codes ↔ k < 27 ∧ k ∉ codes := by
 unfold missN
 rw [List.mem_filter, List.mem_range, decide_eq_true_eq]
theorem missN_len {codes : List Nat} (h : codes.length ≤ 5) : 0 < (missN codes).length ∧ (missN codes).length ≤ 27 := by
 refine ⟨Nat.pos_of_ne_zero fun e => ?_, ?_⟩
 · have e := List.eq_nil_of_length_eq_zero e
   have := nodup_sub (List.range 27) codes List.nodup_range fun x hx => by
     rcases Classical.em (x ∈ codes) with c | c
     · exact c
     · have : x ∈ missN codes := (missN_mem x).mpr ⟨List.mem_range.mp hx, c⟩
       rw [e] at this
       cases this
   rw [List.length_range] at this
   omega
 · exact Nat.le_trans (List.length_filter_le _ _) (by rw [List.length_range]; exact Nat.le_refl _)
theorem d3_len : ∀ l : List Nat, (l.flatMap d3).length = 3 * l.length
 | [] => rfl
 | a :: l => by
   rw [List.flatMap_cons, List.length_append, d3_len l, List.length_cons]
   exact Nat.add_comm _ _
theorem oth_size {ob : Array UInt8} {l : List Nat} (h : ob.toList.map UInt8.toNat = l.flatMap d3) : ob.size = 3 * l.length := by
 rw [← d3_len, ← h, List.length_map, Array.length_toList]
noncomputable def duK (T : List Mon) (j k l : Nat) : List Mon := ((List.range l).filter fun l => decide ((2 - j, 2 - k, 2 - l) ∉ T)).map fun l => (j, k, l)
noncomputable def duJ (T : List Mon) (j k : Nat) : List Mon := (List.range k).flatMap fun k => duK T j k 3
noncomputable def duT (T : List Mon) (j : Nat) : List Mon := (List.range j).flatMap fun j => duJ T j 3
theorem duK_in {T : List Mon} {j k l : Nat} (h : (2 - j, 2 - k, 2 - l) ∈ T) : duK T j k (l + 1) = duK T j k l := by
 unfold duK
 rw [List.range_succ, List.filter_append, List.filter_cons, if_neg (by simpa using h)]
 simp
theorem duK_out {T : List Mon} {j k l : Nat} (h : (2 - j, 2 - k, 2 - l) ∉ T) : duK T j k (l + 1) = duK T j k l ++ [(j, k, l)] := by
 unfold duK
 rw [List.range_succ, List.filter_append, List.filter_cons, if_pos (by simpa using h)]
 simp
theorem duJ_succ (T : List Mon) (j k : Nat) : duJ T j (k + 1) = duJ T j k ++ duK T j k 3 := by
 unfold duJ
 rw [List.range_succ, List.flatMap_append]
 simp
theorem duT_succ (T : List Mon) (j : Nat) : duT T (j + 1) = duT T j ++ duJ T j 3 := by
 unfold duT
 rw [List.range_succ, List.flatMap_append]
 simp
theorem duK_len (T : List Mon) (j k l : Nat) : (duK T j k l).length ≤ l := by
 unfold duK
 rw [List.length_map]
 exact Nat.le_trans (List.length_filter_le _ _) (by rw [List.length_range]; exact Nat.le_refl _)
theorem duJ_len (T : List Mon) (j k : Nat) : (duJ T j k).length ≤ 3 * k := by
 induction k with
 | zero => exact Nat.le_refl _
 | succ k ih =>
   rw [duJ_succ, List.length_append]
   exact Nat.add_le_add ih (duK_len T j k 3)
theorem duT_len (T : List Mon) (j : Nat) : (duT T j).length ≤ 9 * j := by
 induction j with
 | zero => exact Nat.le_refl _
 | succ j ih =>
   rw [duT_succ, List.length_append]
   exact Nat.add_le_add ih (duJ_len T j 3)
theorem two_less {i k l : Nat} (hi : i < 3) (hk : k < 3) (hl : l < 3) : ((2 - (0 + (i : Int) * 1), 2 - (0 + (k : Int) * 1), 2 - (0 + (l : Int) * 1)) : IT) = toI (2 - i, 2 - k, 2 - l) := by
 unfold toI
 refine Prod.ext ?_ (Prod.ext ?_ ?_)
 · show 2 - (0 + (i : Int) * 1) = ((2 - i : Nat) : Int)
   rw [zi]; exact (Int.ofNat_sub (Nat.le_of_lt_succ hi)).symm
 · show 2 - (0 + (k : Int) * 1) = ((2 - k : Nat) : Int)
   rw [zi]; exact (Int.ofNat_sub (Nat.le_of_lt_succ hk)).symm
 · show 2 - (0 + (l : Int) * 1) = ((2 - l : Nat) : Int)
   rw [zi]; exact (Int.ofNat_sub (Nat.le_of_lt_succ hl)).symm
inductive TkO (Z0 os : List (Addr × Obj)) (bad : List Addr) (ts : List Mon) (ys : List Value) : List (Addr × Obj) → Prop
 | mk (nw' : List (Addr × Obj)) (off : ∀ p ∈ nw', p.1 ∉ bad) (up : ∀ q ∈ Z0, q ∈ nw') (tk : TakenIs nw' ts ys) : TkO Z0 os bad ts ys (os ++ nw')
theorem TkO.up {Z0 os : List (Addr × Obj)} {bad : List Addr} {ts : List Mon} {ys : List Value} {nw : List (Addr × Obj)} (H : TkO Z0 os bad ts ys nw) : ∀ q ∈ Z0, q ∈ nw := by
 obtain ⟨nw', off, up, tk⟩ := H
 exact fun q hq => List.mem_append_right _ (up q hq)
theorem TkO.own {Z0 os : List (Addr × Obj)} {bad : List Addr} {ts : List Mon} {ys : List Value} {nw : List (Addr × Obj)} (H : TkO Z0 os bad ts ys nw) : ∀ q ∈ os, q ∈ nw := by
 obtain ⟨nw', off, up, tk⟩ := H
 exact fun q hq => List.mem_append_left _ hq
theorem TkO.len {Z0 os : List (Addr × Obj)} {bad : List Addr} {ts : List Mon} {ys : List Value} {nw : List (Addr × Obj)} (H : TkO Z0 os bad ts ys nw) : ys.length = ts.length := by
 obtain ⟨nw', off, up, tk⟩ := H
 exact tk.1
theorem TkO.push {Z0 os : List (Addr × Obj)} {bad bad2 : List Addr} {ts ts2 : List Mon} {ys : List Value} {nw : List (Addr × Obj)} (H : TkO Z0 os bad ts ys nw) (o : List (Addr × Obj)) (hnn : ∀ p ∈ nw, p.1 ∉ bad2) (e : ts2 = []) : TkO Z0 (o ++ os) (bad ++ bad2) (ts ++ ts2) ys (o ++ nw) := by
 obtain ⟨nw', off, up, tk⟩ := H
 rw [← List.append_assoc, e, List.append_nil]
 exact ⟨nw', fun p hp hm => (List.mem_append.mp hm).elim (off p hp) (hnn p (List.mem_append_right _ hp)), up, tk⟩
theorem TkO.pop {Z0 os o : List (Addr × Obj)} {bad bad2 : List Addr} {ts : List Mon} {ys : List Value} {nw : List (Addr × Obj)} (H : TkO Z0 (o ++ os) (bad ++ bad2) ts ys nw) (hos : ∀ p ∈ os, p.1 ∉ bad2) : ∃ nw2, (∀ p ∈ nw2, p ∈ nw) ∧ (∀ p ∈ nw2, p.1 ∉ bad2) ∧ TkO Z0 os bad ts ys nw2 := by
 obtain ⟨nw', off, up, tk⟩ := H
 refine ⟨os ++ nw', fun p hp => ?_, fun p hp => ?_, nw', fun p hp h => off p hp (List.mem_append_left _ h), up, tk⟩
 · rw [List.append_assoc]
   exact List.mem_append_right _ hp
 · rcases List.mem_append.mp hp with hp | hp
   · exact hos p hp
   · exact fun h => off p hp (List.mem_append_right _ h)
theorem CNextM.tk {h₀ h' : Heap} {L : Addr} {m m₂ : Str → Option Value} {ow : List Addr} {C D T T1 : Addr} {t1 oC : Obj} {o nw Z0 os : List (Addr × Obj)} {bad : List Addr} {ts ts2 : List Mon} {ys : List Value} {Jn : (Str → Option Value) → List (Addr × Obj) → Prop} {s : Shared} {tk z : Nat} {x y u : Int} {a b c : Tok} {t : Mon}
   (hC : LCg.NsObj oC m₂) (F : Fr h₀ L h' m) (N : News h₀ L h' ((T, tupO #[Value.int x a, Value.int y b, Value.int u c] z) :: (T1, t1) :: (C, oC) :: (D, listOf ys.toArray ys.length) :: ([] ++ (o ++ nw)))) (l : @LT.lt Nat _ T1 T ∧ @LT.lt Nat _ C T ∧ @LT.lt Nat _ D T ∧ AllLt T ([] ++ (o ++ nw))) (hlv : ∀ a ∈ ow, ∃ ob, (a, ob) ∈ o) (hnn : ∀ p ∈ nw, p.1 ∉ C :: D :: ow)
   (H : TkO Z0 os bad ts ys nw) (hb : ∀ a ∈ bad, a = C ∨ a = D ∨ ∃ ob, (a, ob) ∈ os) (ex : x = t.1) (ey : y = t.2.1) (eu : u = t.2.2) (e : ts ++ [t] = ts2) (hJ : ∀ nw2, TkO Z0 os bad ts2 (ys ++ [.ref T]) nw2 → Jn m₂ nw2) :
   CNextM h₀ L m ow C D o ys Jn s { s with heap := h', toks := tk } := by
 subst e
 obtain ⟨nw', off, up, tk⟩ := H
 have big : ∀ p ∈ [] ++ (o ++ (os ++ nw')), @LT.lt Nat _ p.1 T := fun p hp => AllLt.mem l.2.2.2 p hp
 refine CNextM.intro (news₂ := os ++ ((T, tupO #[Value.int x a, Value.int y b, Value.int u c] z) :: nw')) hC F N (.tail _ (.tail _ (.head _))) (.tail _ (.tail _ (.tail _ (.head _)))) (fun p hp => .tail _ (.tail _ (.tail _ (.tail _ (List.mem_append_right [] (List.mem_append_left _ hp)))))) (fun p hp => ?_) (fun p hp => ?_) (hJ _ ⟨_, fun p hp => ?_, fun q hq => .tail _ (up q hq), tk.snoc ex ey eu⟩)
 · rcases List.mem_append.mp hp with hp | hp
   · exact .tail _ (.tail _ (.tail _ (.tail _ (List.mem_append_right [] (List.mem_append_right _ (List.mem_append_left _ hp))))))
   · rcases List.mem_cons.mp hp with rfl | hp
     · exact .head _
     · exact .tail _ (.tail _ (.tail _ (.tail _ (List.mem_append_right [] (List.mem_append_right _ (List.mem_append_right _ hp))))))
 · rcases List.mem_append.mp hp with hp | hp
   · exact hnn p (List.mem_append_left _ hp)
   · rcases List.mem_cons.mp hp with rfl | hp
     · intro hm
       rcases List.mem_cons.mp hm with e | hm
       · exact Nat.ne_of_gt l.2.1 e
       · rcases List.mem_cons.mp hm with e | hm
         · exact Nat.ne_of_gt l.2.2.1 e
         · obtain ⟨oI, mI⟩ := hlv _ hm
           exact Nat.lt_irrefl _ (big _ (List.mem_append_right [] (List.mem_append_left _ mI)))
     · exact hnn p (List.mem_append_right _ hp)
 · rcases List.mem_cons.mp hp with rfl | hp
   · intro hm
     rcases hb _ hm with e | e | ⟨ob, h⟩
     · exact Nat.ne_of_gt l.2.1 e
     · exact Nat.ne_of_gt l.2.2.1 e
     · exact Nat.lt_irrefl _ (big _ (List.mem_append_right [] (List.mem_append_right _ (List.mem_append_left _ h))))
   · exact off p hp
theorem topW0 {ow : List Addr} {C D : Addr} {oC oD : Obj} {o nw : List (Addr × Obj)} (hCw : C ∉ ow) (hDw : D ∉ ow) (ho : ∀ p ∈ o, p.1 ∈ ow) (hnn : ∀ p ∈ nw, p.1 ∉ C :: D :: ow) : ∀ q ∈ o ++ nw, q ∈ (C, oC) :: (D, oD) :: ([] ++ (o ++ nw)) ∧ q.1 ≠ C ∧ q.1 ≠ D := fun q hq => by
 refine ⟨.tail _ (.tail _ hq), ?_⟩
 rcases List.mem_append.mp hq with hq | hq
 · exact ⟨fun e => hCw (e ▸ ho q hq), fun e => hDw (e ▸ ho q hq)⟩
 · exact ⟨fun e => hnn q hq (e ▸ .head _), fun e => hnn q hq (e ▸ .tail _ (.head _))⟩
theorem notIn_new {prog : Program} {w : World} {A : Around} {h₀ : Heap} {L : Addr} {s : Shared} {E : Value → Shared → Prop} {Q : Value → Shared → Prop} {T l : Addr} {x y u : Int} {a b c : Tok} {z n : Nat} {q1 q2 : Addr × Obj} {o nw Z : List (Addr × Obj)} {vs : List Value} {ts : List Mon} (N : News h₀ L s.heap ((T, tupO #[Value.int x a, Value.int y b, Value.int u c] z) :: q1 :: q2 :: ([] ++ (o ++ nw)))) (hZ : ∀ q ∈ Z, q ∈ nw) (hm : (l, listOf vs.toArray n) ∈ Z) (h : TakenIs Z ts vs) (hu : A.in1.units < cLine)
   (h1 : (x, y, u) ∈ ts.map toI → Q (.bool false) s) (h2 : (x, y, u) ∉ ts.map toI → Q (.bool true) s) : wpAny (model prog w) A (compareOp .NotIn (.ref T) (.ref l)) Q E s := by
 have inZ : ∀ q ∈ Z, q ∈ (T, tupO #[Value.int x a, Value.int y b, Value.int u c] z) :: q1 :: q2 :: ([] ++ (o ++ nw)) := fun q hq => .tail _ (.tail _ (.tail _ (List.mem_append_right [] (List.mem_append_right o (hZ q hq)))))
 exact notIn_taken N (inZ _ hm) (h.more inZ) ⟨a, b, c, z, .head _⟩ hu h1 h2
theorem bm_ne {x y : Str} {a : Value} {m : Str → Option Value} {v : Option Value} (h : y ≠ x) (e : m y = v) : bindMap [x] [a] m y = v := (if_neg h).trans e
theorem law_post (ns : List Int) : PySem.Challenge.rw_wy0029_01.row.claim.post [ofPy (PyData.list (List.map PyData.int ns))] (WData.bool true) [ofPy (PyData.list (List.map PyData.int ns))] = true := by wrow_post
theorem is_bytes {w : World} {A : Around} {E : Value → Shared → Prop} {s : Shared} {Q : Value → Shared → Prop} {y : Array UInt8} {u : Tok} (X : (Mine.hd.heap_1 w.params).In s.heap) (h : ∀ tk, Q (.bool true) { s with toks := tk }) :
   wpAny (model PySem.Challenge.rw_wy0029_01.row.prog w) A (call (.builtin "isinstance") [.bytes y u, .type "bytes"]) Q E s :=
 kia_one kitx_bytes X trivial (if_pos rfl) (fun q => nomatch q) h
end
section
local macro_rules | `(tactic| walk_at "zhold") => `(tactic| first | assumption | exact Hold.cons (by walk_at "zhold") | exact Hold.app (by walk_at "zhold"))
local macro_rules | `(tactic| walk_at "eval Name") => `(tactic| (k_here; (with_reducible refine' nmH ?g ?N ?H ?c ?d ?v ?_); k_dflt ((case g => exact rfl); (case N => k_asm); (case H => walk_at "zhold"); (case c => exact rfl); (case d => exact rfl); (case v => walk_at "zlook")); k_whole))
section
inductive HZJS : {α : Type} → Sem α → Prop
 | c0 (a1 a2 a3 a4 a5 a6 a7) : HZJS (execs (Stmt.For a1 a2 a3 a4 a5 :: a6) a7)
 | c1 (a1) : HZJS (pyIter a1)
 | c2 (a1 a2 a3 a4 a5) : HZJS (assign (Expr.Tuple a1 a2 a3) a4 a5)
 | c3 (a1 a2 a3) : HZJS (unpackItems a1 a2 a3)
 | c4 (a1 a2) : HZJS (storeName a1 (Str.ofString "j") a2)
 | c5 (a1 a2) : HZJS (storeName a1 (Str.ofString "k") a2)
 | c6 (a1 a2) : HZJS (storeName a1 (Str.ofString "l") a2)
 | c7 (a1 a2) : HZJS (storeName a1 (Str.ofString "row") a2)
 | c8 (a1 a2) : HZJS (storeName a1 (Str.ofString "at") a2)
 | c9 (a1 a2) : HZJS (storeName a1 (Str.ofString "places") a2)
 | c10 (a1 a2) : HZJS (compareOp CmpOp.NotIn a1 a2)
 | c11 (a1 a2) : HZJS (compareOp CmpOp.In a1 a2)
 | c12 (a1 a2) : HZJS (compareOp CmpOp.Eq (Value.ref a1) a2)
 | c13 (a1 a2) : HZJS (compareOp CmpOp.NotEq (Value.ref a1) a2)
 | c14 (a1 a2) : HZJS (call (Value.builtin "min") a1 a2)
 | c15 (a1 a2) : HZJS (call (Value.builtin "sorted") a1 a2)
 | c16 (a1 a2) : HZJS (call (Value.type "zip") a1 a2)
 | c17 (a1 a2 a3) : HZJS (getMethod (Value.ref a1) a2 a3)
 | c18 (a1 a2 a3 a4 a5) : HZJS (subscriptTail a1 (Expr.Name a2 a3) (Value.ref a4) a5)
 | c19 (a1 a2 a3 a4 a5 a6) : HZJS (subscriptTail a1 (Expr.Subscript a2 a3 a4) (Value.ref a5) a6)
 | c20 (a1 a2) : HZJS (binaryOp Operator.Add (Value.ref a1) (Value.ref a2))
 | c21 (a1 a2) : HZJS (binaryOp Operator.Pow a1 a2)
 | c22 (a1 a2 a3 a4) : HZJS (subscriptTail (Expr.Name (Str.ofString "places") a1) a2 a3 a4)
 | c23 (a1 a2) : HZJS (binaryOp Operator.Mult a1 a2)
 | c24 (a1 a2) : HZJS (call (Value.builtin "list.append") a1 a2)
 | c25 (a1 a2) : HZJS (call (Value.builtin "len") a1 a2)
namespace ZJS
theorem hzt {α : Type} {M : Model} {A : Around} {t : Sem α} {Q : α → Shared → Prop} {E : Value → Shared → Prop} {s : Shared} (_ : HZJS t) (h : wpAny M A t Q E s) : wpAny M A t Q E s := h
end ZJS
open ZJS
theorem pow_lt {x n : Nat} (hx : x ≤ 2) (hn : n ≤ 3) : ((x : Int) ^ n).natAbs < 2 ^ 64 := by
 have : ∀ x : Fin 3, ∀ n : Fin 4, (((x : Nat) : Int) ^ (n : Nat)).natAbs < 2 ^ 64 := by decide
 exact this ⟨x, Nat.lt_succ_of_le hx⟩ ⟨n, Nat.lt_succ_of_le hn⟩
theorem pow_at {prog : Program} {w : World} {A : Around} {s : Shared} {E : Value → Shared → Prop} {Q : Value → Shared → Prop} {x n : Nat} {t u : Tok} (hx : x ≤ 2) (hn : n ≤ 3) (h : Q (.int ((x : Int) ^ n) s.toks) { s with toks := s.toks + 1 }) : wpAny (model prog w) A (binaryOp .Pow (.int (x : Int) t) (.int (n : Int) u)) Q E s :=
 pow_int_small (Int.natCast_nonneg _) (by first | exact Nat.lt_of_le_of_lt hn (by decide) | omega) (by first | exact Nat.lt_of_le_of_lt hx (by decide) | omega) h
theorem mul_at {prog : Program} {w : World} {A : Around} {s : Shared} {E : Value → Shared → Prop} {Q : Value → Shared → Prop} {x y : Int} {t u : Tok} (hy : y.natAbs < 2 ^ 64) (h : Q (.int (x * y) s.toks) { s with toks := s.toks + 1 }) : wpAny (model prog w) A (binaryOp .Mult (.int x t) (.int y u)) Q E s :=
 mul_int h (IntMulOk.of_right (intBits_le_iff.mpr hy))
theorem take_snoc {l : List Int} {i : Nat} {x : Int} {ys : List Value} {k : Tok} (h : IntsAre ys (l.take i)) (hx : l[i]? = some x) : IntsAre (ys ++ [.int x k]) (l.take (i + 1)) := by
 rw [List.take_add_one, hx]
 exact ints_snoc h
theorem ev_snoc {P : List Mon} {t q : Mon} {i : Nat} {ys : List Value} {k : Tok} (h : IntsAre ys ((evP (P.map toI) (mono t)).take i)) (hq : P[i]? = some q) : IntsAre (ys ++ [.int (Int.fmod ((q.1 : Int) ^ t.1 * (q.2.1 : Int) ^ t.2.1 * (q.2.2 : Int) ^ t.2.2) 5) k]) ((evP (P.map toI) (mono t)).take (i + 1)) := by
 rw [Int.fmod_eq_emod_of_nonneg _ (by decide)]
 refine take_snoc h ?_
 unfold evP
 rw [List.map_map, List.getElem?_map, hq]
 rfl
noncomputable def up1 (t : Mon) (d : Nat) : Mon := match d with
 | 0 => (t.1 + 1, t.2.1, t.2.2)
 | 1 => (t.1, t.2.1 + 1, t.2.2)
 | _ => (t.1, t.2.1, t.2.2 + 1)
noncomputable def BsOk (T : List Mon) (n : Nat) (bs : List Mon) : Prop := bs.Nodup ∧ (∀ x ∈ bs, x ∉ T ∧ Le3 x) ∧ bs.length ≤ n ∧ (0 < n → T = [(0, 0, 0)] → bs ≠ [])
theorem BsOk.add {T : List Mon} {n : Nat} {bs : List Mon} {x : Mon} (h : BsOk T n bs) (h1 : x ∉ T) (h2 : Le3 x) (h3 : x ∉ bs) : BsOk T (n + 1) (bs ++ [x]) := by
 refine ⟨List.nodup_append.mpr ⟨h.1, by simp, fun a ha b hb e => ?_⟩, fun y hy => ?_, ?_, fun _ _ => by simp⟩
 · rw [List.mem_singleton.mp hb] at e; exact h3 (e ▸ ha)
 · rcases List.mem_append.mp hy with hy | hy
   · exact h.2.1 y hy
   · rw [List.mem_singleton.mp hy]; exact ⟨h1, h2⟩
 · rw [List.length_append]; exact Nat.succ_le_succ h.2.2.1
theorem BsOk.start {T : List Mon} : BsOk T 0 [] := by unfold BsOk; simp
theorem BsOk.skip {T : List Mon} {n : Nat} {bs : List Mon} (h : BsOk T n bs) (hn : T = [(0, 0, 0)] → bs ≠ []) : BsOk T (n + 1) bs := ⟨h.1, h.2.1, Nat.le_succ_of_le h.2.2.1, fun _ => hn⟩
section
variable {prog : Program} {w : World} {A : Around} {h₀ : Heap} {L : Addr} {led : List (Addr × Obj)} {s : Shared} {E : Value → Shared → Prop} {Q : Value → Shared → Prop}
theorem TupAt.cons {q : Addr × Obj} {T : Addr} {t : IT} (h : TupAt led T t) : TupAt (q :: led) T t := h.more fun _ => .tail _
theorem TupAt.app {o : List (Addr × Obj)} {T : Addr} {t : IT} (h : TupAt led T t) : TupAt (o ++ led) T t := h.more fun _ => List.mem_append_right _
theorem TupAt.here {T : Addr} {x y u : Int} {a b c : Tok} {z : Nat} : TupAt ((T, tupO #[Value.int x a, Value.int y b, Value.int u c] z) :: led) T (x, y, u) := ⟨a, b, c, z, .head _⟩
theorem itemT0 {value slice : Expr} {T : Addr} {t : IT} {u : Tok} (N : News h₀ L s.heap led) (hT : TupAt led T t) (h : ∀ a, Q (.int t.1 a) s)
   (hs : subscripted slice false (.ref T) (.int 0 u) = operate [.ref T, .int 0 u] (getItem (.ref T) (.int 0 u)) := by with_unfolding_all rfl) : wpAny (model prog w) A (subscriptTail value slice (.ref T) (.int 0 u)) Q E s := by
 refine x4a1 hT ?_; clear hT; rintro a b c z k
 exact item_tupleT (k := 0) (j := 0) (l := [.int t.1 a, .int t.2.1 b, .int t.2.2 c]) ⟨_, (N _ k).1, rfl, _, rfl⟩ (by decide) (by decide) rfl rfl (h a) hs
theorem itemT1 {value slice : Expr} {T : Addr} {t : IT} {u : Tok} (N : News h₀ L s.heap led) (hT : TupAt led T t) (h : ∀ a, Q (.int t.2.1 a) s)
   (hs : subscripted slice false (.ref T) (.int 1 u) = operate [.ref T, .int 1 u] (getItem (.ref T) (.int 1 u)) := by with_unfolding_all rfl) : wpAny (model prog w) A (subscriptTail value slice (.ref T) (.int 1 u)) Q E s := by
 refine x4a1 hT ?_; clear hT; rintro a b c z k
 exact item_tupleT (k := 1) (j := 1) (l := [.int t.1 a, .int t.2.1 b, .int t.2.2 c]) ⟨_, (N _ k).1, rfl, _, rfl⟩ (by decide) (by decide) rfl rfl (h b) hs
theorem itemT2 {value slice : Expr} {T : Addr} {t : IT} {u : Tok} (N : News h₀ L s.heap led) (hT : TupAt led T t) (h : ∀ a, Q (.int t.2.2 a) s)
   (hs : subscripted slice false (.ref T) (.int 2 u) = operate [.ref T, .int 2 u] (getItem (.ref T) (.int 2 u)) := by with_unfolding_all rfl) : wpAny (model prog w) A (subscriptTail value slice (.ref T) (.int 2 u)) Q E s := by
 refine x4a1 hT ?_; clear hT; rintro a b c z k
 exact item_tupleT (k := 2) (j := 2) (l := [.int t.1 a, .int t.2.1 b, .int t.2.2 c]) ⟨_, (N _ k).1, rfl, _, rfl⟩ (by decide) (by decide) rfl rfl (h c) hs
theorem ne_nil {D D2 : Addr} {vs : List Value} {n k : Nat} (N : News h₀ L s.heap led) (h1 : (D, listOf vs.toArray n) ∈ led) (h2 : (D2, listOf #[] k) ∈ led) (hu : A.units < cLine) (h : Q (.bool !vs.isEmpty) s) : wpAny (model prog w) A (compareOp .NotEq (.ref D) (.ref D2)) Q E s := by
 cases vs with
 | nil => exact SeqAt.RcNeAt.lists (e := fun _ => true) (News.isList N h1) (News.isList N h2) rfl hu (fun j h1 => absurd h1 (Nat.not_lt_zero _)) prog w E Q h
 | cons a r => exact SeqAt.RcNeAt.lists_lengths (News.isList N h1) (News.isList N h2) (by simp) hu prog w E Q h
theorem ne_cons {D D2 : Addr} {x : Value} {vs : List Value} {n k : Nat} (N : News h₀ L s.heap led) (h1 : (D, listOf (x :: vs).toArray n) ∈ led) (h2 : (D2, listOf #[] k) ∈ led) (hu : A.units < cLine) (h : Q (.bool true) s) : wpAny (model prog w) A (compareOp .NotEq (.ref D) (.ref D2)) Q E s :=
 SeqAt.RcNeAt.lists_lengths (News.isList N h1) (News.isList N h2) (by simp) hu prog w E Q h
theorem eq_nil {D D2 : Addr} {vs : List Value} {n k : Nat} (N : News h₀ L s.heap led) (h1 : (D, listOf vs.toArray n) ∈ led) (h2 : (D2, listOf #[] k) ∈ led) (hu : A.units < cLine) (h : Q (.bool vs.isEmpty) s) : wpAny (model prog w) A (compareOp .Eq (.ref D) (.ref D2)) Q E s := by
 cases vs with
 | nil => exact SeqAt.eq_listAt (e := fun _ => true) (News.isList N h1) (News.isList N h2) rfl hu (fun j h1 => absurd h1 (Nat.not_lt_zero _)) h
 | cons a r => exact SeqAt.eq_list_lengthsAt (News.isList N h1) (News.isList N h2) (by simp) hu h
end
local macro_rules | `(tactic| walk_at "ztup") => `(tactic| first | assumption | exact TupAt.here | exact TupAt.cons (by walk_at "ztup") | exact TupAt.app (by walk_at "ztup"))
local macro_rules | `(tactic| walk_at "subscriptTail Name Constant ref int") => `(tactic| (k_here; k_dflt (first | ((with_reducible show wpAny _ _ (subscriptTail _ _ _ (Value.int 0 _)) _ _ _); refine itemT0 (by k_asm) (by walk_at "ztup") ?_) | ((with_reducible show wpAny _ _ (subscriptTail _ _ _ (Value.int 1 _)) _ _ _); refine itemT1 (by k_asm) (by walk_at "ztup") ?_) | ((with_reducible show wpAny _ _ (subscriptTail _ _ _ (Value.int 2 _)) _ _ _); refine itemT2 (by k_asm) (by walk_at "ztup") ?_)); intro _))
theorem name2 {cl : List (Str × Addr)} {led P : List (Addr × Obj)} {cv : Str → Option Value} {a b : Addr} {o o' : Obj} (_ : Hold cl led ((a, o) :: (b, o') :: P) cv) : ∃ x y, x = a ∧ y = b := ⟨_, _, rfl, rfl⟩
theorem name4 {cl : List (Str × Addr)} {led P : List (Addr × Obj)} {cv : Str → Option Value} {a b c d : Addr} {o1 o2 o3 o4 : Obj} (_ : Hold cl led ((a, o1) :: (b, o2) :: (c, o3) :: (d, o4) :: P) cv) : ∃ x y z u, x = a ∧ y = b ∧ z = c ∧ u = d := ⟨_, _, _, _, rfl, rfl, rfl, rfl⟩
theorem cons_mid4 {a b c d e : Addr × Obj} {o P : List (Addr × Obj)} {q : Addr × Obj} (h : q ∈ e :: (o ++ a :: b :: c :: d :: P)) : q ∈ [a, b, c, d] ++ (o ++ e :: P) := (by repeat' (first | exact sb0 | exact sbs | refine sbc ?_ ?_ | refine sba ?_ ?_ | refine sbt ?_ | refine sbl sbs | refine sbr ?_ | exact .head _ | refine .tail _ ?_ | refine List.mem_append_right _ ?_) : ∀ q ∈ e :: (o ++ a :: b :: c :: d :: P), q ∈ [a, b, c, d] ++ (o ++ e :: P)) q h
theorem pack3 {cl : List (Str × Addr)} {led o P0 : List (Addr × Obj)} {cv : Str → Option Value} {U T3 T2 T1 bh : Addr} {ob : Obj} {x1 y1 u1 x2 y2 u2 x3 y3 u3 : Int} {a1 b1 c1 a2 b2 c2 a3 b3 c3 : Tok} {z0 z1 z2 z3 : Nat}
   (H : Hold cl led ([(U, tupO #[Value.ref T1, Value.ref T2, Value.ref T3] z0), (T3, tupO #[Value.int x3 a3, Value.int y3 b3, Value.int u3 c3] z3), (T2, tupO #[Value.int x2 a2, Value.int y2 b2, Value.int u2 c2] z2), (T1, tupO #[Value.int x1 a1, Value.int y1 b1, Value.int u1 c1] z1)] ++ (o ++ (bh, ob) :: P0)) cv)
   (ho : ∀ q ∈ o, q.1 ≠ bh) (hp : ∀ q ∈ P0, q.1 ≠ bh) (hT : @LT.lt Nat _ bh T1 ∧ @LT.lt Nat _ bh T2 ∧ @LT.lt Nat _ bh T3 ∧ @LT.lt Nat _ bh U) :
   ∃ P2, Hold cl led ((bh, ob) :: (o ++ P2)) cv ∧ (∀ q ∈ o ++ P2, q.1 ≠ bh) ∧ (∀ q ∈ P0, q ∈ P2) ∧ (U, tupO #[Value.ref T1, Value.ref T2, Value.ref T3] z0) ∈ P2 ∧ TupAt P2 T1 (x1, y1, u1) ∧ TupAt P2 T2 (x2, y2, u2) ∧ TupAt P2 T3 (x3, y3, u3) ∧ ∀ q ∈ P2, q ∈ P0 ∨ q.1 = U ∨ q.1 = T1 ∨ q.1 = T2 ∨ q.1 = T3 := by
 refine ⟨_ :: _ :: _ :: _ :: P0, H.less fun q hq => cons_mid4 hq, aa ho (ac (Nat.ne_of_gt hT.2.2.2) (ac (Nat.ne_of_gt hT.2.2.1) (ac (Nat.ne_of_gt hT.2.1) (ac (Nat.ne_of_gt hT.1) hp)))), fun q hq => .tail _ (.tail _ (.tail _ (.tail _ hq))), .head _, ⟨a1, b1, c1, z1, .tail _ (.tail _ (.tail _ (.head _)))⟩, ⟨a2, b2, c2, z2, .tail _ (.tail _ (.head _))⟩, ⟨a3, b3, c3, z3, .tail _ (.head _)⟩, ac (.inr (.inl rfl)) (ac (.inr (.inr (.inr (.inr rfl)))) (ac (.inr (.inr (.inr (.inl rfl)))) (ac (.inr (.inr (.inl rfl))) fun q hq => .inl hq)))⟩
theorem pack_less {cl : List (Str × Addr)} {o data P2 : List (Addr × Obj)} {cv : Str → Option Value} {g h : Heap} {L l Ta Tb Tc bh : Addr} {ob : Obj} {ow : List Addr} {x1 y1 u1 x2 y2 u2 x3 y3 u3 : Int} {a1 b1 c1 a2 b2 c2 a3 b3 c3 : Tok} {z z1 z2 z3 : Nat}
   (N : News g L h ((l, listOf #[Value.ref Ta, Value.ref Tb, Value.ref Tc] z) :: (Tc, tupO #[Value.int x3 a3, Value.int y3 b3, Value.int u3 c3] z3) :: (Tb, tupO #[Value.int x2 a2, Value.int y2 b2, Value.int u2 c2] z2) :: (Ta, tupO #[Value.int x1 a1, Value.int y1 b1, Value.int u1 c1] z1) :: (o ++ data)))
   (HB : Hold cl data ((bh, ob) :: P2) cv) (ho : ∀ q ∈ o, q.1 ∈ ow) (hn : ∀ q ∈ data, q.1 ∉ ow) :
   ∃ Z P3 l' A B C, l' = l ∧ News g L h Z ∧ Hold cl Z P3 cv ∧ (l', listOf #[Value.ref A, Value.ref B, Value.ref C] z) ∈ P3 ∧ TupAt P3 A (x1, y1, u1) ∧ TupAt P3 B (x2, y2, u2) ∧ TupAt P3 C (x3, y3, u3) ∧ (bh, ob) ∈ P3 ∧ (∀ q ∈ P2, q ∈ P3) ∧ ∀ q ∈ o ++ data, q ∈ Z := by
 have H := ((HB.app (o := o)).addO HB (fun q hq => List.mem_append_left data hq) ho hn).adds (xs := [_, _, _, _]) N rfl
 refine ⟨_, _, _, _, _, _, rfl, N, H, .head _, ⟨a1, b1, c1, z1, .tail _ (.tail _ (.tail _ (.head _)))⟩, ⟨a2, b2, c2, z2, .tail _ (.tail _ (.head _))⟩, ⟨a3, b3, c3, z3, .tail _ (.head _)⟩, List.mem_append_right _ (List.mem_append_right _ (.head _)), fun q hq => List.mem_append_right _ (List.mem_append_right _ (.tail _ hq)), fun q hq => .tail _ (.tail _ (.tail _ (.tail _ hq)))⟩
noncomputable def low1 (x : IT) (i : Nat) : IT := match i with
 | 0 => (x.1 - 1, x.2.1, x.2.2)
 | 1 => (x.1, x.2.1 - 1, x.2.2)
 | _ => (x.1, x.2.1, x.2.2 - 1)
theorem low1_first {d i : Nat} {M : Int} (hi : i < 3) (hd : d < 3) (hM : M ≤ (low1 (toI (up1 (0, 0, 0) d)) i).1 ∧ M ≤ (low1 (toI (up1 (0, 0, 0) d)) i).2.1 ∧ M ≤ (low1 (toI (up1 (0, 0, 0) d)) i).2.2) (h0 : 0 ≤ M) : low1 (toI (up1 (0, 0, 0) d)) i = toI (0, 0, 0) := by
 have h1 := two (Nat.le_of_lt_succ hi)
 have h2 := two (Nat.le_of_lt_succ hd)
 rcases h1 with rfl | rfl | rfl <;> rcases h2 with rfl | rfl | rfl <;> first | rfl | exact absurd (Int.le_trans h0 hM.1) (by decide) | exact absurd (Int.le_trans h0 hM.2.1) (by decide) | exact absurd (Int.le_trans h0 hM.2.2) (by decide)
theorem TakenIs.snocAt {Z : List (Addr × Obj)} {ts : List Mon} {vs : List Value} (h : TakenIs Z ts vs) {T : Addr} {t : Mon} (hT : TupAt Z T (toI t)) : TakenIs Z (ts ++ [t]) (vs ++ [.ref T]) := by
 refine x4a1 hT ?_; clear hT; rintro a b c z k
 refine (h.snoc (T := T) (t := t) (a := a) (b := b) (c := c) (z := z) rfl rfl rfl).more fun q hq => ?_
 rcases List.mem_cons.mp hq with rfl | hq
 · exact k
 · exact hq
theorem up1_le {t : Mon} (h : t.1 ≤ 2 ∧ t.2.1 ≤ 2 ∧ t.2.2 ≤ 2) (d : Nat) : Le3 (up1 t d) := by
 obtain ⟨h1, h2, h3⟩ := h
 match d with
 | 0 => exact ⟨Nat.succ_le_succ h1, Nat.le_succ_of_le h2, Nat.le_succ_of_le h3⟩
 | 1 => exact ⟨Nat.le_succ_of_le h1, Nat.succ_le_succ h2, Nat.le_succ_of_le h3⟩
 | n + 2 => exact ⟨Nat.le_succ_of_le h1, Nat.le_succ_of_le h2, Nat.succ_le_succ h3⟩
theorem first_least {T bs : List Mon} (hnd : (T ++ bs).Nodup) (hT0 : T[0]? = some (0, 0, 0)) {i : Nat} {t0 t : Mon} (h0 : (T ++ bs)[0]? = some t0) (hi : 0 < i) (ht : (T ++ bs)[i]? = some t) : codeM t0 < codeM t := by
 have e0 : t0 = (0, 0, 0) := by
   rw [List.getElem?_append_left (List.getElem?_eq_some_iff.mp hT0).1, hT0] at h0
   exact (Option.some.inj h0).symm
 subst e0
 obtain ⟨x, y, z⟩ := t
 by_cases c : (x, y, z) = (0, 0, 0)
 · exfalso
   rw [c] at ht
   obtain ⟨h1, e1⟩ := List.getElem?_eq_some_iff.mp h0
   obtain ⟨h2, e2⟩ := List.getElem?_eq_some_iff.mp ht
   exact List.pairwise_iff_getElem.mp (List.nodup_iff_pairwise_ne.mp hnd) 0 i h1 h2 hi (e1.trans e2.symm)
 · have : x ≠ 0 ∨ y ≠ 0 ∨ z ≠ 0 := by
     by_cases hx : x = 0
     · by_cases hy : y = 0
       · by_cases hz : z = 0
         · exact absurd (by rw [hx, hy, hz]) c
         · exact .inr (.inr hz)
       · exact .inr (.inl hy)
     · exact .inl hx
   dsimp only [codeM]
   omega
theorem up1_ne (t : Mon) (d : Nat) : up1 t d ≠ (0, 0, 0) := fun e => by
 match d with
 | 0 => exact absurd (congrArg Prod.fst e) (Nat.succ_ne_zero _)
 | 1 => exact absurd (congrArg (fun x : Mon => x.2.1) e) (Nat.succ_ne_zero _)
 | n + 2 => exact absurd (congrArg (fun x : Mon => x.2.2) e) (Nat.succ_ne_zero _)
inductive JsA (cl : List (Str × Addr)) (T : List Mon) (tl pl bh b0 : Addr) (K : List (Addr × Obj)) (n : Nat) (m : Str → Option Value) (data : List (Addr × Obj)) : Prop
 | mk (P0 : List (Addr × Obj)) (bs : List Mon) (bv : List Value) (nb : Nat) (cv : Str → Option Value) (HB : Hold cl data ((bh, listOf (List.toArray bv) nb) :: P0) cv) (hK : ∀ q ∈ K, q ∈ P0) (hb : ∀ q ∈ P0, q.1 ≠ bh) (hB : TakenIs P0 bs bv) (hbs : BsOk T n bs)
   (e1 : cv "taken" = some (.ref tl)) (e2 : m "points" = some (.ref pl)) (e3 : m "behind" = some (.ref bh)) (e4 : m "base" = some (.ref b0)) : JsA cl T tl pl bh b0 K n m data
inductive JsB (cl : List (Str × Addr)) (T : List Mon) (tl pl bh b0 : Addr) (S P2 : List (Addr × Obj)) (n : Nat) (m : Str → Option Value) (data : List (Addr × Obj)) : Prop
 | mk (bs : List Mon) (bv : List Value) (nb : Nat) (cv : Str → Option Value) (HB : Hold cl data ((bh, listOf (List.toArray bv) nb) :: (S ++ P2)) cv) (hB : TakenIs P2 bs bv) (hbs : BsOk T n bs)
   (e1 : cv "taken" = some (.ref tl)) (e2 : m "points" = some (.ref pl)) (e3 : m "behind" = some (.ref bh)) (e4 : m "base" = some (.ref b0)) : JsB cl T tl pl bh b0 S P2 n m data
noncomputable def BaseIs (Z : List (Addr × Obj)) (B : List (Nat × List Int)) (bv : List Value) : Prop := bv.length = B.length ∧ ∀ (i : Nat) (e : Nat × List Int), B[i]? = some e → ∃ T l rv k z a, bv[i]? = some (.ref T) ∧ (T, tupO #[Value.int e.1 a, Value.ref l] z) ∈ Z ∧ (l, listOf (List.toArray rv) k) ∈ Z ∧ IntsAre rv e.2
noncomputable def RowOk (n : Nat) (r : List Int) : Prop := r.length = n ∧ ∀ x ∈ r, 0 ≤ x ∧ x < 5
theorem evP_row {pts : List Pt3} (f : Poly) : RowOk pts.length (evP pts f) := ⟨evP_len f, fun x hx => by
 obtain ⟨p, _, rfl⟩ := List.mem_map.mp hx
 exact ⟨Int.emod_nonneg _ (by decide), Int.emod_lt_of_pos _ (by decide)⟩⟩
theorem red1_row {n : Nat} {r : List Int} {e : Nat × List Int} (h1 : RowOk n r) (h2 : RowOk n e.2) : RowOk n (red1 r e) := ⟨by unfold red1; rw [List.length_zipWith, h1.1, h2.1, Nat.min_self], fun x hx => by
 obtain ⟨i, hi, rfl⟩ := List.mem_iff_getElem.mp hx
 simp only [red1, List.getElem_zipWith]
 exact ⟨Int.emod_nonneg _ (by decide), Int.emod_lt_of_pos _ (by decide)⟩⟩
theorem redB_snoc {B : List (Nat × List Int)} {r : List Int} {i : Nat} {e : Nat × List Int} (h : B[i]? = some e) : redB (B.take (i + 1)) r = red1 (redB (B.take i) r) e := by
 unfold redB
 rw [List.take_add_one, h, List.foldl_append]
 rfl
theorem row_at {rv : List Value} {r : List Int} {i : Nat} (h : IntsAre rv r) (hi : i < r.length) : ∃ x t, rv[i]? = some (.int x t) ∧ r[i]? = some x := by
 obtain ⟨v, hv⟩ : ∃ v, rv[i]? = some v := ⟨_, List.getElem?_eq_getElem (by rw [IntsAre.length h]; exact hi)⟩
 refine x2a2 (IntsAre.at h i v hv) ?_; rintro x t rfl hx
 exact ⟨x, t, hv, hx⟩
theorem ints_get {rv : List Value} {r : List Int} {i : Nat} {x : Int} {t : Tok} (h : IntsAre rv r) (hi : rv[i]? = some (.int x t)) : r[i]? = some x := by
 refine x2a2 (IntsAre.at h i _ hi) ?_; rintro y u e hx
 cases e
 exact hx
theorem red1_get {r : List Int} {e : Nat × List Int} {i : Nat} {x y z : Int} (hx : r[i]? = some x) (hy : e.2[i]? = some y) (hz : r[e.1]? = some z) : (red1 r e)[i]? = some (Int.fmod (x - z * y) 5) := by
 unfold red1
 rw [List.getElem?_zipWith, hx, hy, List.getD_eq_getElem?_getD, hz, Int.fmod_eq_emod_of_nonneg _ (by decide)]
 rfl
theorem fit62 {a n : Nat} (h : a < n) (h2 : n ≤ 15) : a < 2 ^ 62 := by omega
theorem lt5 {x : Int} (h : 0 ≤ x ∧ x < 5) : x.natAbs < 2 ^ 64 := Nat.lt_trans (Int.natAbs_lt_natAbs_of_nonneg_of_lt h.1 h.2) (by decide)
theorem cube_lt {x : Int} (h : 0 ≤ x ∧ x < 5) : (x ^ 3).natAbs < 2 ^ 64 := by
 rw [Int.natAbs_pow]
 exact Nat.lt_of_le_of_lt (Nat.pow_le_pow_left (Nat.le_of_lt (Int.natAbs_lt_natAbs_of_nonneg_of_lt h.1 h.2)) 3) (by decide)
theorem pow3 {prog : Program} {w : World} {A : Around} {s : Shared} {E : Value → Shared → Prop} {Q : Value → Shared → Prop} {x : Int} {t u : Tok} (hx : 0 ≤ x ∧ x < 5) (h : Q (.int (x ^ 3) s.toks) { s with toks := s.toks + 1 }) : wpAny (model prog w) A (binaryOp .Pow (.int x t) (.int 3 u)) Q E s :=
 pow_int_small (by decide) (by decide) (lt5 hx) h
theorem norm_get {r : List Int} {i p : Nat} {x z : Int} (hx : r[i]? = some x) (hz : r[p]? = some z) : (normAt r p)[i]? = some (Int.fmod (x * z ^ 3) 5) := by
 unfold normAt
 rw [List.getElem?_map, hx, List.getD_eq_getElem?_getD, hz, Int.fmod_eq_emod_of_nonneg _ (by decide)]
 rfl
theorem norm_row {n p : Nat} {r : List Int} (h : RowOk n r) : RowOk n (normAt r p) := ⟨by unfold normAt; rw [List.length_map]; exact h.1, fun x hx => by
 obtain ⟨y, _, rfl⟩ := List.mem_map.mp hx
 exact ⟨Int.emod_nonneg _ (by decide), Int.emod_lt_of_pos _ (by decide)⟩⟩
theorem hide3 {a b c : Addr × Obj} {Z : List (Addr × Obj)} {g h : Heap} {L : Addr} (N : News g L h (a :: b :: c :: Z)) : ∃ Z', News g L h Z' ∧ ∀ q ∈ Z, q ∈ Z' := ⟨_, N, fun q hq => .tail _ (.tail _ (.tail _ hq))⟩
theorem BaseIs.snoc {Z : List (Addr × Obj)} {B : List (Nat × List Int)} {bv : List Value} (h : BaseIs Z B bv) {T l : Addr} {rv : List Value} {k z p : Nat} {a : Tok} {r : List Int} (hi : IntsAre rv r) :
   BaseIs ((T, tupO #[Value.int (p : Int) a, Value.ref l] z) :: (l, listOf (List.toArray rv) k) :: Z) (B ++ [(p, r)]) (bv ++ [.ref T]) := by
 refine ⟨by rw [List.length_append, List.length_append, h.1]; rfl, fun i e he => ?_⟩
 by_cases c : i < B.length
 · rw [List.getElem?_append_left c] at he
   refine x6a4 (h.2 i e he) ?_; rintro T' l' rv' k' z' a' k1 k2 k3 k4
   exact ⟨T', l', rv', k', z', a', by rw [List.getElem?_append_left (by rw [h.1]; exact c)]; exact k1, .tail _ (.tail _ k2), .tail _ (.tail _ k3), k4⟩
 · have hl := (List.getElem?_eq_some_iff.mp he).1
   rw [List.length_append] at hl
   have e1 : i = B.length := by
     have : i < B.length + 1 := hl
     omega
   subst e1
   rw [List.getElem?_append_right (Nat.le_refl _), Nat.sub_self] at he
   cases he
   exact ⟨T, l, rv, k, z, a, by rw [List.getElem?_append_right (by rw [h.1]; exact Nat.le_refl _), h.1, Nat.sub_self]; rfl, .head _, .tail _ (.head _), hi⟩
theorem base_pack {cl : List (Str × Addr)} {Z o PY data : List (Addr × Obj)} {cv cv0 : Str → Option Value} {g h : Heap} {L Tn D3 b0 I : Addr} {tob lob ob ob' obI : Obj} {d r : Addr × Obj}
   (H : Hold cl Z ([d] ++ r :: (o ++ (b0, ob) :: PY)) cv) (N : News g L h ((Tn, tob) :: (D3, lob) :: Z)) (c1 : notCell (Tn, tob) = true) (c2 : notCell (D3, lob) = true)
   (HB : Hold cl data ((b0, ob) :: PY) cv0) (hn : ∀ p ∈ data, p.1 ∉ [I]) (hb : ∀ q ∈ PY, q.1 ≠ b0) (hT : ∀ q ∈ Z, @LT.lt Nat _ q.1 Tn) (hD : ∀ q ∈ Z, q.1 ≠ D3) (hI : (I, obI) ∈ o) :
   ∃ PY2, PY2 = (Tn, tob) :: (D3, lob) :: PY ∧ Hold cl ((upd b0 ob' ((Tn, tob) :: (D3, lob) :: Z)).filter fun q => decide (q.1 ∉ [I])) ((b0, ob') :: PY2) cv ∧ ∀ q ∈ PY2, q.1 ≠ b0 := by
 have mb := H.sub _ (.tail _ (.tail _ (List.mem_append_right o (.head _))))
 have mI := H.sub _ (.tail _ (.tail _ (List.mem_append_left _ hI)))
 have hb2 : ∀ q ∈ (Tn, tob) :: (D3, lob) :: PY, q.1 ≠ b0 := fun q hq => by
   rcases List.mem_cons.mp hq with rfl | hq
   · exact Nat.ne_of_gt (hT _ mb)
   · rcases List.mem_cons.mp hq with rfl | hq
     · exact Ne.symm (hD _ mb)
     · exact hb q hq
 have H2 := H.adds (xs := [(Tn, tob), (D3, lob)]) N (by rw [List.all_cons, List.all_cons, c1, c2]; rfl)
 have H3 := (H2.less (P' := (b0, ob) :: (Tn, tob) :: (D3, lob) :: PY) fun q hq => by
   rcases List.mem_cons.mp hq with rfl | hq
   · exact .tail _ (.tail _ (.tail _ (.tail _ (List.mem_append_right o (.head _)))))
   · rcases List.mem_cons.mp hq with rfl | hq
     · exact .head _
     · rcases List.mem_cons.mp hq with rfl | hq
       · exact .tail _ (.head _)
       · exact .tail _ (.tail _ (.tail _ (.tail _ (List.mem_append_right o (.tail _ hq)))))).set (o' := ob') hb2
 refine ⟨_, rfl, H3.leave HB hn fun q hq e => ?_, hb2⟩
 have e := List.mem_singleton.mp e
 rcases List.mem_cons.mp hq with rfl | hq
 · exact hn _ (HB.sub _ (.head _)) (List.mem_singleton.mpr e)
 · rcases List.mem_cons.mp hq with rfl | hq
   · exact Nat.ne_of_gt (hT _ mI) e
   · rcases List.mem_cons.mp hq with rfl | hq
     · exact hD _ mI e.symm
     · exact hn _ (HB.sub _ (.tail _ hq)) (List.mem_singleton.mpr e)
structure RowIs (rv : List Value) (r : List Int) : Prop where
 isI : IntsAre rv r
noncomputable def placesI (r : List Int) (i : Nat) : List Int := ((List.range i).filter fun i : Nat => decide (r.getD i 0 ≠ 0)).map fun i : Nat => (i : Int)
theorem placesI_len (r : List Int) (i : Nat) : (placesI r i).length ≤ i := by
 unfold placesI
 rw [List.length_map]
 have := List.length_filter_le (fun i : Nat => decide (r.getD i 0 ≠ 0)) (List.range i)
 rw [List.length_range] at this
 exact this
theorem placesI_yes {r : List Int} {i : Nat} {x : Int} {ys : List Value} {k : Tok} (h : IntsAre ys (placesI r i)) (hx : r[i]? = some x) (h0 : x ≠ 0) : IntsAre (ys ++ [.int (i : Int) k]) (placesI r (i + 1)) := by
 have e : placesI r (i + 1) = placesI r i ++ [(i : Int)] := by
   unfold placesI
   rw [List.range_succ, List.filter_append, List.map_append]
   congr 1
   rw [List.filter_cons_of_pos (by rw [List.getD_eq_getElem?_getD, hx]; exact decide_eq_true h0)]
   rfl
 rw [e]
 exact ints_snoc h
theorem placesI_no {r : List Int} {i : Nat} {x : Int} {ys : List Value} (h : IntsAre ys (placesI r i)) (hx : r[i]? = some x) (h0 : ¬ x ≠ 0) : IntsAre ys (placesI r (i + 1)) := by
 have e : placesI r (i + 1) = placesI r i := by
   unfold placesI
   rw [List.range_succ, List.filter_append, List.map_append, List.filter_cons_of_neg (by rw [List.getD_eq_getElem?_getD, hx]; simpa using h0)]
   exact List.append_nil _
 rw [e]
 exact h
theorem places_nil {pts : List Pt3} {r : List Int} {ys : List Value} (h : IntsAre ys (placesI r pts.length)) (g : placesOf pts r = []) : ys = [] := by
 have e : placesI r pts.length = [] := congrArg (List.map fun i : Nat => (i : Int)) g
 rw [e] at h
 exact List.length_eq_zero_iff.mp (IntsAre.length h)
theorem places_cons {pts : List Pt3} {r : List Int} {ys : List Value} {p : Nat} {q : List Nat} (h : IntsAre ys (placesI r pts.length)) (g : placesOf pts r = p :: q) : ∃ u yr, ys = .int (p : Int) u :: yr := by
 have e : placesI r pts.length = (p : Int) :: q.map fun i : Nat => (i : Int) := congrArg (List.map fun i : Nat => (i : Int)) g
 rw [e] at h
 cases h with
 | cons _ _ _ => exact ⟨_, _, rfl⟩
theorem places_lt {pts : List Pt3} {r : List Int} {p : Nat} {q : List Nat} (g : placesOf pts r = p :: q) : p < pts.length := by
 have : p ∈ placesOf pts r := by rw [g]; exact .head _
 exact List.mem_range.mp (List.mem_filter.mp this).1
theorem justGo_step {pts : List Pt3} {T us : List Mon} {B : List (Nat × List Int)} {i : Nat} {t : Mon} (hG : justGo pts T (us.drop i) B = true) (ht : us[i]? = some t) :
   (placesOf pts (redB B (evP pts (mono t))) = [] ∧ t ∉ T ∧ justGo pts T (us.drop (i + 1)) B = true) ∨
   (∃ p q, placesOf pts (redB B (evP pts (mono t))) = p :: q ∧ t ∈ T ∧ justGo pts T (us.drop (i + 1)) (B ++ [(p, normAt (redB B (evP pts (mono t))) p)]) = true) := by
 obtain ⟨hi, rfl⟩ := List.getElem?_eq_some_iff.mp ht
 rw [List.drop_eq_getElem_cons hi] at hG
 unfold justGo at hG
 cases e : placesOf pts (redB B (evP pts (mono us[i]))) with
 | nil =>
   simp only [e] at hG
   by_cases c : us[i] ∈ T
   · rw [if_pos c] at hG; cases hG
   · rw [if_neg c] at hG; exact .inl ⟨rfl, c, hG⟩
 | cons p q =>
   simp only [e] at hG
   by_cases c : us[i] ∈ T
   · rw [if_pos c] at hG; exact .inr ⟨p, q, rfl, c, hG⟩
   · rw [if_neg c] at hG; cases hG
section
variable {prog : Program} {w : World} {A : Around} {h₀ : Heap} {L : Addr} {led : List (Addr × Obj)} {s : Shared} {E : Value → Shared → Prop} {Q : Value → Shared → Prop}
theorem in_takenN (N : News h₀ L s.heap led) {l : Addr} {n : Nat} {vs : List Value} {ts : List Mon} {t : Mon} (hm : (l, listOf vs.toArray n) ∈ led) (h : TakenIs led ts vs) {T : Addr} (hT : TupAt led T (toI t)) (hu : A.in1.units < cLine) (hn : t ∉ ts)
   (hq : Q (.bool false) s) : wpAny (model prog w) A (compareOp .In (.ref T) (.ref l)) Q E s := in_taken N hm h hT hu (by rw [decide_eq_false fun e => hn (mem_toI.mp e)]; exact hq)
theorem in_takenY (N : News h₀ L s.heap led) {l : Addr} {n : Nat} {vs : List Value} {ts : List Mon} {t : Mon} (hm : (l, listOf vs.toArray n) ∈ led) (h : TakenIs led ts vs) {T : Addr} (hT : TupAt led T (toI t)) (hu : A.in1.units < cLine) (hn : t ∈ ts)
   (hq : Q (.bool true) s) : wpAny (model prog w) A (compareOp .In (.ref T) (.ref l)) Q E s := in_taken N hm h hT hu (by rw [decide_eq_true (mem_toI.mpr hn)]; exact hq)
end
theorem BaseIs.get {Z : List (Addr × Obj)} {B : List (Nat × List Int)} {bv : List Value} (h : BaseIs Z B bv) {i : Nat} {v : Value} (hv : bv[i]? = some v) : ∃ e T l rv k z a, B[i]? = some e ∧ v = .ref T ∧ (T, tupO #[Value.int e.1 a, Value.ref l] z) ∈ Z ∧ (l, listOf (List.toArray rv) k) ∈ Z ∧ IntsAre rv e.2 := by
 have hi : i < B.length := by rw [← h.1]; exact (List.getElem?_eq_some_iff.mp hv).1
 refine x6a4 (h.2 i _ (List.getElem?_eq_getElem hi)) ?_; rintro T l rv k z a k1 k2 k3 k4
 rw [hv] at k1
 exact ⟨_, T, l, rv, k, z, a, List.getElem?_eq_getElem hi, Option.some.inj k1, k2, k3, k4⟩
inductive JsD (cl : List (Str × Addr)) (S : List (Addr × Obj)) (t : Mon) (n : Nat) (B : List (Nat × List Int)) (r0 : List Int) (tl pl b0 : Addr) (i : Nat) (m : Str → Option Value) (data : List (Addr × Obj)) : Prop
 | mk (R : Addr) (rv : List Value) (k : Nat) (cv : Str → Option Value) (HB : Hold cl data ((R, listOf (List.toArray rv) k) :: S) cv) (hr : IntsAre rv (redB (B.take i) r0)) (hl : RowOk n (redB (B.take i) r0)) (e1 : cv "taken" = some (.ref tl)) (e5 : cv "row" = some (.ref R))
   (e6 : ∃ a b c, cv "j" = some (.int (toI t).1 a) ∧ cv "k" = some (.int (toI t).2.1 b) ∧ cv "l" = some (.int (toI t).2.2 c)) (e2 : m "points" = some (.ref pl)) (e4 : m "base" = some (.ref b0)) : JsD cl S t n B r0 tl pl b0 i m data
inductive JsC (cl : List (Str × Addr)) (T : List Mon) (pts : List Pt3) (us : List Mon) (tl pl b0 : Addr) (PX : List (Addr × Obj)) (i : Nat) (m : Str → Option Value) (data : List (Addr × Obj)) : Prop
 | mk (B : List (Nat × List Int)) (bv : List Value) (nb : Nat) (cv : Str → Option Value) (PY : List (Addr × Obj)) (HB : Hold cl data ((b0, listOf (List.toArray bv) nb) :: PY) cv) (hPY : ∀ q ∈ PX, q ∈ PY) (hb : ∀ q ∈ PY, q.1 ≠ b0) (hB : BaseIs PY B bv) (hBo : ∀ e ∈ B, e.1 < pts.length ∧ RowOk pts.length e.2) (hBl : B.length ≤ i)
   (hG : justGo pts T (us.drop i) B = true) (e1 : cv "taken" = some (.ref tl)) (e2 : m "points" = some (.ref pl)) (e4 : m "base" = some (.ref b0)) : JsC cl T pts us tl pl b0 PX i m data
theorem stmt_cellO {M : Model} {A : Around} {st : Stmt} {rest : List Stmt} {env : Env} {g : Heap} {L : Addr} {m : Str → Option Value} {Q : Flow → Shared → Prop} {E : Value → Shared → Prop} {s : Shared} {cl : List (Str × Addr)} {led P : List (Addr × Obj)} {cv : Str → Option Value} (_ : Fr g L s.heap m) (_ : Hold cl led P cv) (R : List (Str × Addr) → Heap → Addr → Shared → Flow → Shared → Prop)
   (h1 : ∀ (R' : Flow → Shared → Prop) (σ : Shared) (t0 : Nat), (∀ f s', R cl g L σ f s' → R' f s') → wpAny M A (exec st env) R' (fun _ _ => False) { σ with heap := s.heap, toks := t0 })
   (h2 : ∀ f s', R cl g L s f s' → (match f with | .next => wpAny M A (execs rest env) Q E s' | f => Q f s')) : wpAny M A (execs (st :: rest) env) Q E s :=
 wpAny_execs_cons (wpAny_mono (h1 (R cl g L s) s s.toks fun _ _ h => h) h2 fun _ _ e => e.elim)
inductive JsR (cl : List (Str × Addr)) (T : List Mon) (tl pl : Addr) (K : List (Addr × Obj)) (n : Nat) (g : Heap) (L : Addr) (s : Shared) (f : Flow) (s' : Shared) : Prop
 | mk (h' : Heap) (tk : Nat) (m' : Str → Option Value) (Z : List (Addr × Obj)) (bh b0 : Addr) (hf : f = Flow.next) (hs : s' = { s with heap := h', toks := tk }) (F : Fr g L h' m') (N : News g L h' Z) (J : JsA cl T tl pl bh b0 ((b0, listOf #[] 0) :: K) n m' Z) (hb0 : ∀ q ∈ K, q.1 ≠ b0) : JsR cl T tl pl K n g L s f s'
section
variable {w : World} {A : Around} {h₀ : Heap} {L : Addr} {m : Str → Option Value} {rest : List (Addr × Obj)} {s : Shared} {E : Value → Shared → Prop} {Q : Value → Shared → Prop}
set_option maxHeartbeats 4000000 in
theorem just_ok {tl pl : Addr} {tv pv : List Value} {tn pn : Nat} {T P : List Mon} (C : Cx w 310 A L h₀) (hh : A.handled = none) (F : Fr h₀ L s.heap m) (N : News h₀ L s.heap rest) (ht : (tl, listOf tv.toArray tn) ∈ rest) (hT : TakenIs rest T tv) (hp : (pl, listOf pv.toArray pn) ∈ rest) (hP : TakenIs rest P pv)
   (hTl : 0 < T.length ∧ T.length ≤ 15) (hTg : ∀ t ∈ T, t.1 ≤ 2 ∧ t.2.1 ≤ 2 ∧ t.2.2 ≤ 2) (hT0 : T[0]? = some (0, 0, 0)) (hTn : T.Nodup) (hPl : P.length = T.length) (hPg : ∀ q ∈ P, q.1 ≤ 2 ∧ q.2.1 ≤ 2 ∧ q.2.2 ≤ 2)
   (hJ : ∀ bs ls : List Mon, bs.Nodup → (∀ x ∈ bs, x ∉ T ∧ Le3 x) → ls.Perm (T ++ bs) → ls.Pairwise (fun a b => codeM a ≤ codeM b) → justGo (P.map toI) T ls [] = true)
   (h : ∀ h' tk, Fr h₀ L h' m → News h₀ L h' rest → Q (.bool true) { s with heap := h', toks := tk }) :
   wpAny (model PySem.Challenge.rw_wy0029_01.row.prog w) A (call (.ref 131) [.ref tl, .ref pl]) Q E s := by
 (((rename Cx _ _ _ _ _ => c0z); (obtain ⟨hdz, huz, hAz, hfz, hkz, Bz, Xz, CT1z, CT2z, Tz⟩ := c0z); (refine lift_around hdz huz hAz ?_); (try refine wpAny_noRaise ?_); (have q0z : (PySem.Challenge.rw_wy0029_01, fun P => (Mine.hd.heap_1 P).length) = (PySem.Challenge.rw_wy0029_01, fun P => (Mine.hd.heap_1 P).length) := by k_fill; rfl); clear q0z))
 refine wpAny_call ?_
 (refine' code_defC ?k1 ?k2 ?k3 ?k4 ?k5 ?kA ?kF ?kK ?k6 ?k7 ?k8 ?k9 ?kB ?kD ?_ ?c2 ?c3 ?c4; (case kA => exact rfl); (case kF => first | assumption | exact rfl); (case kK => first | assumption | exact rfl); (case k1 => k_asm); (case k2 => k_asm); (case k3 => k_asm); (case k4 => k_asm); (case k5 => k_asm); (case k6 => k_is); (case k7 => k_is); (case k8 => k_room); (case k9 => first | exact BindsTo.of_eq rfl | exact binds_K (by k_in) rfl (by k_is) rfl rfl rfl | (refine' kp_binds ?kx ?ke; (case kx => k_in); (case ke => exact fun _ => rfl))); (case kB => exact rfl); (case kD => decide +kernel); (case c2 => exact rfl); (case c3 => exact rfl); (case c4 => exact rfl); k_whole; intro g' L' h' tk' cells' FG' F' N' Y' B' X' T' l1; (refine wpAny_noRaise ?_); (have c1' := CodeHd.keeps (c := 125) (P := 123) (by assumption) (Fr.keep FG')); (have c2' := CodeHd.keeps (c := 108) (P := 104) (by assumption) (Fr.keep FG')); (try dsimp only); (try k_lift B'); (try k_fold))
 rename CellsAre _ _ _ => Y1
 rename News _ _ _ _ => N1
 rename Fr _ _ _ _ => F1
 rename (∀ p ∈ rest, @LT.lt Nat _ _ _) => l1
 refine hold_open (ns := ["places", "at", "row", "l", "k", "j", "taken"]) (cv := fun x => if x = "taken" then some (.ref tl) else none) N1 Y1 l1 rfl (by simp only [List.forall_mem_cons]; exact ⟨rfl, rfl, rfl, rfl, rfl, rfl, rfl, fun _ h => nomatch h⟩) ?_
 clear Y1 N1
 intro led N2 H inj hcl
 (refine wpAny_execs_cons (blind ?_)); intro Q' hQ'
 refine Assign_Tuple_swapped (names := ["behind", "base"]) ?_
 walk_at "zs"
 rename Fr _ _ _ _ => F3
 rename News _ _ _ _ => N3
 refine unpackItemsN_ F3 N3 ⟨_, (N3 _ (.head _)).1, rfl, _, rfl⟩ hh rfl ?_
 intro h4 F4 N4
 clear F3 N3
 rename (∀ p ∈ led, @LT.lt Nat _ p.1 _) => b1
 rename (_ < _ ∧ AllLt _ led) => b2
 have b3 : ∀ p ∈ rest, @LT.lt Nat _ p.1 _ := fun p hp => b1 p (H.sub p hp)
 have H1 := (H.push (o := listOf #[] 0) b1).push (o := listOf #[] 0) fun p hp => by
   rcases List.mem_cons.mp hp with rfl | hp
   · exact b2.1
   · exact AllLt.mem b2.2 p hp
 walk_at "zs"
 rename Fr _ _ _ _ => F5
 rename News _ _ _ _ => N5
 have H2 := H1.less (P' := _ :: _ :: rest) (fun q hq => by
   rcases List.mem_cons.mp hq with rfl | hq
   · exact .tail _ (.head _)
   · rcases List.mem_cons.mp hq with rfl | hq
     · exact .head _
     · exact .tail _ (.tail _ hq))
 refine x2a2 (name2 H2) ?_; rintro bh b0 rfl rfl
 have hb1 : ∀ q ∈ (b0, listOf #[] 0) :: rest, q.1 ≠ bh := fun q hq => by
   rcases List.mem_cons.mp hq with rfl | hq
   · exact Nat.ne_of_gt b2.1
   · exact Nat.ne_of_lt (b3 q hq)
 have hb0 : ∀ q ∈ rest, q.1 ≠ b0 := fun q hq => Nat.ne_of_lt (Nat.lt_trans (b3 q hq) b2.1)
 refine stmt_cellO F5 H2 (fun cl g L s f s' => JsR cl T tl pl rest (3 * T.length) g L s f s') ?_ ?_
 · intro R' σ t0 hRR
   dsimp only
   clear b1 b2 b3 H1 H l1
   refine wpAny_For ?_
   walk_at "zs"
   refine zlist hh F5 N5 (.tail _ (H2.sub _ (.tail _ (.tail _ ht)))) ?_
   intro I o O h6 SL hO hoff hown F6 N6
   refine zforL (SL _ (zgoT I)) (fun i m data => JsA _ T tl pl bh b0 ((b0, listOf #[] 0) :: rest) (3 * i) m data)
     (fun i m data hJ p hp => by obtain ⟨P0, bs, bv, nb, cv, HB, hK, _⟩ := hJ; rw [List.mem_singleton.mp hp]; exact HB.sub _ (.tail _ (hK _ (.tail _ ht)))) F6 N6 hO hoff
     ⟨(b0, listOf #[] 0) :: rest, [], [], 0, _, H2.cons, fun q hq => hq, hb1, ⟨rfl, fun _ _ h => nomatch h⟩, BsOk.start, by walk_at "zlook", by walk_at "zlook", by walk_at "zlook", by walk_at "zlook"⟩ ?_ ?_
   · clear F5 N5 F6 N6 hO hoff H2
     intro J' R' σ hJJ i v o₁ m₁ data h₁ tk₁ hi hJ0 hv hO₁ ho₁ hn₁ F7 N7
     ((refine opq ?_); intro G' hG')
     obtain ⟨P0, bs, bv, nb, cv, HB, hK, hb, hB, hbs, e1, e2, e3, e4⟩ := hJ0
     simp only [List.nil_append] at N7
     obtain ⟨t, T0, ht0, rfl, a1, a2, a3, z, k0⟩ := hT.get (by simpa using hv)
     ((with_reducible rename Opq _ _ => hG'); (refine hG' ?_); clear hG'; (try dsimp only))
     have HC := HB.app.addO HB (fun q hq => List.mem_append_left data hq) ho₁ hn₁
     have kT := HC.sub _ (List.mem_append_right _ (.tail _ (hK _ (.tail _ k0))))
     refine zunp hh F7 N7 kT rfl rfl rfl rfl fun h8 F8 N8 => ?_
     walk_at "zs"
     rename Fr _ _ _ _ => F9
     rename News _ _ _ _ => N9
     refine storeX_H F9 N9 HC inj rfl ?_
     intro h10 Z1 F10 N10 HC1
     clear F9 N9
     walk_at "zs"
     refine storeX_H F10 N10 HC1 inj rfl ?_
     intro h11 Z2 F11 N11 HC2
     clear F10 N10
     walk_at "zs"
     refine storeX_H F11 N11 HC2 inj rfl ?_
     intro h12 Z3 F12 N12 HC3
     clear F11 N11 HC2 HC1 HC kT
     walk_at "zs"
     (with_reducible refine wpAny_execs_cons (blind ?_)); intro _ _; refine wpAny_For ?_
     walk_at "zs"
     rename Fr _ _ _ _ => F13
     rename News _ _ _ _ => N13
     rename (∀ p ∈ Z3, @LT.lt Nat _ p.1 _) => q1
     rename (_ < _ ∧ AllLt _ Z3) => q2
     rename (_ < _ ∧ _ < _ ∧ AllLt _ Z3) => q3
     rename (_ < _ ∧ _ < _ ∧ _ < _ ∧ AllLt _ Z3) => q4
     have HD := HC3.adds (xs := [_, _, _, _]) N13 rfl
     refine x4a4 (name4 HD) ?_; rintro U T3 T2 T1 rfl rfl rfl rfl
     have mbh := HC3.sub _ (List.mem_append_right o₁ (.head _))
     ((refine opq ?_); intro G' hG')
     refine x1a8 (pack3 HD (fun q hq e => hn₁ _ (HB.sub _ (.head _)) (by rw [← e]; exact ho₁ q hq)) hb ⟨q1 _ mbh, AllLt.mem q2.2 _ mbh, AllLt.mem q3.2.2 _ mbh, AllLt.mem q4.2.2.2 _ mbh⟩) ?_; rintro P2 HE hb2 pP2 mU k1 k2 k3 hP2
     ((with_reducible rename Opq _ _ => hG'); (refine hG' ?_); clear hG'; (try dsimp only))
     have fI : @LT.lt Nat _ I T1 ∧ @LT.lt Nat _ I T2 ∧ @LT.lt Nat _ I T3 ∧ @LT.lt Nat _ I U := by
       obtain ⟨obI, lI⟩ := (SL (.Name "" default) (zgoN I)).live _ _ hO₁ I (.head _)
       have := HC3.sub _ (List.mem_append_left _ lI)
       exact ⟨q1 _ this, AllLt.mem q2.2 _ this, AllLt.mem q3.2.2 _ this, AllLt.mem q4.2.2.2 _ this⟩
     have hPI : ∀ q ∈ P2, q.1 ∉ [I] := fun q hq e => by
       have e := List.mem_singleton.mp e
       rcases hP2 q hq with hq | hq | hq | hq | hq
       · exact hn₁ q (HB.sub q (.tail _ hq)) (by rw [e]; exact .head _)
       · exact Nat.ne_of_lt fI.2.2.2 (e.symm.trans hq)
       · exact Nat.ne_of_lt fI.1 (e.symm.trans hq)
       · exact Nat.ne_of_lt fI.2.1 (e.symm.trans hq)
       · exact Nat.ne_of_lt fI.2.2.1 (e.symm.trans hq)
     clear q1 q2 q3 q4 HD hP2
     have hup : ∀ d v, (#[Value.ref T1, Value.ref T2, Value.ref T3] : Array Value)[d]? = some v → ∃ T', v = .ref T' ∧ TupAt P2 T' (toI (up1 t d)) := fun d v hv => by
       match d with
       | 0 => exact ⟨T1, (Option.some.inj hv).symm, k1⟩
       | 1 => exact ⟨T2, (Option.some.inj hv).symm, k2⟩
       | 2 => exact ⟨T3, (Option.some.inj hv).symm, k3⟩
       | n + 3 => simp at hv
     refine ztuple hh F13 N13 (.head _) ?_
     intro I2 o2 O2 h14 SR2 hO2 hoff2 hown2 F14 N14
     refine zforL (SR2 _ _) (fun d m data2 => JsB _ T tl pl bh b0 o₁ P2 (3 * i + d) m data2)
       (fun d m data hJ p hp => by obtain ⟨bs, bv, nb, cv, HB, _⟩ := hJ; rw [List.mem_singleton.mp hp]; exact HB.sub _ (.tail _ (List.mem_append_right _ mU))) F14 N14 hO2 hoff2
       ⟨bs, bv, nb, _, HE, hB.more pP2, hbs, by walk_at "zlook", e2, e3, e4⟩ ?_ ?_
     · have HB0 := HB
       clear F13 N13 F14 N14 hO2 hoff2 hB hbs HE HC3 HB mbh
       intro J' R' σ hJJ d v o₃ m₃ data2 h₂ tk₂ hd hJ0 hv hO₃ ho₃ hn₂ F15 N15
       ((refine opq ?_); intro G' hG')
       obtain ⟨bs, bv, nb, cv2, HB, hB, hbs, e1, e2, e3, e4⟩ := hJ0
       obtain ⟨T', rfl, hone⟩ := hup d v (by simpa using hv)
       ((with_reducible rename Opq _ _ => hG'); (refine hG' ?_); clear hG'; (try dsimp only))
       simp only [List.nil_append] at N15
       have honeL := (hone.more fun q hq => HB.sub q (.tail _ (List.mem_append_right _ hq))).app (o := o₃)
       walk_at "zs"
       rename Fr _ _ _ _ => F16
       rename News _ _ _ _ => N16
       ((refine opq ?_); intro G' hG')
       obtain ⟨Z, P3, ls, Ta, Tb, Tc, rfl, N17, HF, mls, g1, g2, g3, mbh, up3, odZ⟩ := pack_less N16 HB ho₃ hn₂
       ((with_reducible rename Opq _ _ => hG'); (refine hG' ?_); clear hG'; (try dsimp only))
       clear N16
       have rP2 : ∀ q ∈ rest, q ∈ P2 := fun q hq => pP2 q (hK q (.tail _ hq))
       have tT : t ∈ T := List.mem_of_getElem? ht0
       refine notIn_taken N17 (HF.sub _ (up3 _ (List.mem_append_right _ (rP2 _ ht)))) (hT.more fun q hq => HF.sub _ (up3 q (List.mem_append_right _ (rP2 q hq)))) (hone.more fun q hq => HF.sub _ (up3 q (List.mem_append_right _ hq))) (Nat.le_of_ble_eq_true rfl) (fun hin => ?_) fun hin => ?_
       · walk_at "zs"
         (try dsimp only [ZTurn])
         exact ZNext.intro F16 (fun p hp => N17 p (odZ p hp)) hn₂ (hJJ _ _ _ ⟨bs, bv, nb, cv2, HB, hB, hbs.skip (fun e => by
           have := mem_toI.mp hin
           rw [e] at this
           exact absurd (List.mem_singleton.mp this) (up1_ne t d)), e1, by walk_at "zlook", by walk_at "zlook", by walk_at "zlook"⟩)
       · have hin := fun e => hin (mem_toI.mpr e)
         walk_at "zs"
         refine notIn_taken N17 (HF.sub _ mbh) (hB.more fun q hq => HF.sub _ (up3 q (List.mem_append_right _ hq))) (hone.more fun q hq => HF.sub _ (up3 q (List.mem_append_right _ hq))) (Nat.le_of_ble_eq_true rfl) (fun hin2 => ?_) fun hin2 => ?_
         · walk_at "zs"
           (try dsimp only [ZTurn])
           exact ZNext.intro F16 (fun p hp => N17 p (odZ p hp)) hn₂ (hJJ _ _ _ ⟨bs, bv, nb, cv2, HB, hB, hbs.skip (fun _ e => by
             rw [e] at hin2; cases hin2), e1, by walk_at "zlook", by walk_at "zlook", by walk_at "zlook"⟩)
         · have hin2 := fun e => hin2 (mem_toI.mpr e)
           walk_at "zs"
           refine zcompF F16 (by exact rfl) (by decide) (by exact rfl) (by decide) ?_
           walk_at "zs"
           refine zlist hh F16 N17 (HF.sub _ mls) ?_
           intro I4 o4 O4 h18 S4 hO4 hoff4 hown4 F18 N18
           have hlow : ∀ i v, (#[Value.ref Ta, Value.ref Tb, Value.ref Tc] : Array Value)[i]? = some v → ∃ T', v = .ref T' ∧ TupAt P3 T' (low1 (toI (up1 t d)) i) := fun i v hv => by
             match i with
             | 0 => exact ⟨Ta, (Option.some.inj hv).symm, g1⟩
             | 1 => exact ⟨Tb, (Option.some.inj hv).symm, g2⟩
             | 2 => exact ⟨Tc, (Option.some.inj hv).symm, g3⟩
             | n + 3 => simp at hv
           refine zcl1O (names := ["low"]) hh (S4 _ (zgoN I4)) (fun i vals x => ∃ T', vals = [.ref T'] ∧ x = [] ∧ i < 3 ∧ TupAt P3 T' (low1 (toI (up1 t d)) i)) (fun i ys nw => Z = nw ∧ i ≤ 3 ∧ ys.length ≤ i ∧ (T = [(0, 0, 0)] → ys = []))
             ?_ ?_ (by exact rfl) (by decide) F18 N18 hO4 hoff4 ⟨rfl, Nat.zero_le _, Nat.le_refl _, fun _ => rfl⟩ ?_ ?_
           · rintro i ys nw ⟨rfl, h3, hl, _⟩
             exact ⟨fun p hp => by rw [List.mem_singleton.mp hp]; exact HF.sub _ mls, by omega⟩
           · rintro i v x t5 u5 ys nw hi' ⟨rfl, _⟩ ⟨h1, rfl⟩
             obtain ⟨T5, rfl, h5⟩ := hlow i v h1
             exact ⟨_, ⟨T5, rfl, rfl, hi', h5⟩, .name⟩
           · intro J' σ hJJ C D2 i vals x o m₅ oC ys nw h19 tk19 hi' hJ0 hV0 ho hxx hnn hC F19 N19
             ((refine opq ?_); intro G' hG')
             refine x0a4 hJ0 ?_; clear hJ0; rintro rfl h3 hl hys
             refine x1a4 hV0 ?_; clear hV0; rintro T5 rfl rfl hi3 h5
             ((with_reducible rename Opq _ _ => hG'); (refine hG' ?_); clear hG'; (try dsimp only))
             have h5L := h5.more (Z' := _ :: _ :: ([] ++ (o ++ Z))) fun q hq => .tail (C, oC) (.tail (D2, listOf ys.toArray ys.length) (List.mem_append_right [] (List.mem_append_right o (HF.sub q hq))))
             have hd' : d < 3 := hd
             have low0 : ∀ M : Int, M ≤ (low1 (toI (up1 t d)) i).1 ∧ M ≤ (low1 (toI (up1 t d)) i).2.1 ∧ M ≤ (low1 (toI (up1 t d)) i).2.2 → 0 ≤ M → low1 (toI (up1 t d)) i ∉ T.map toI → T = [(0, 0, 0)] → False := fun M hM h0 hn e => by
               have et : t = (0, 0, 0) := by rw [e] at tT; exact List.mem_singleton.mp tT
               rw [et] at hM hn
               rw [low1_first hi3 hd' hM h0] at hn
               exact hn (mem_toI.mpr (by rw [e]; exact .head _))
             walk_at "zs"
             refine min_tup (by exact hh) F19 N19 h5L ?_
             intro h20 M u20 tk20 F20 N20 hM
             clear F19 N19
             walk_at "zs"
             · rename (0 ≤ M) => h0M
               have up19 : ∀ q ∈ P3, q ∈ (C, oC) :: (D2, listOf ys.toArray ys.length) :: ([] ++ (o ++ Z)) := fun q hq => .tail _ (.tail _ (List.mem_append_right [] (List.mem_append_right o (HF.sub q hq))))
               refine notIn_taken N20 (up19 _ (up3 _ (List.mem_append_right _ (rP2 _ ht)))) (hT.more fun q hq => up19 _ (up3 q (List.mem_append_right _ (rP2 q hq)))) (h5.more up19) (Nat.le_of_ble_eq_true rfl) (fun hl5 => ?_) fun hl5 => ?_
               · walk_at "zs"
                 exact CNext.intro hC F20 N20 (.head _) (.tail _ (.head _)) (fun p hp => .tail _ (.tail _ (List.mem_append_right [] (List.mem_append_left _ hp)))) (fun p hp => .tail _ (.tail _ (List.mem_append_right [] (List.mem_append_right o hp)))) hnn (hJJ _ _ _ ⟨rfl, hi3, Nat.le_succ_of_le hl, hys⟩)
               · walk_at "zs"
                 exact CNext.intro hC F20 N20 (.head _) (.tail _ (.head _)) (fun p hp => .tail _ (.tail _ (List.mem_append_right [] (List.mem_append_left _ hp)))) (fun p hp => .tail _ (.tail _ (List.mem_append_right [] (List.mem_append_right o hp)))) hnn (hJJ _ _ _ ⟨rfl, hi3, by rw [List.length_append]; exact Nat.succ_le_succ hl, fun e => (low0 M hM h0M hl5 e).elim⟩)
             · exact CNext.intro hC F20 N20 (.head _) (.tail _ (.head _)) (fun p hp => .tail _ (.tail _ (List.mem_append_right [] (List.mem_append_left _ hp)))) (fun p hp => .tail _ (.tail _ (List.mem_append_right [] (List.mem_append_right o hp)))) hnn (hJJ _ _ _ ⟨rfl, hi3, Nat.le_succ_of_le hl, hys⟩)
           · rintro D2 ys nw hD2 ⟨rfl, _, _, hys⟩
             intro h21 tk21 F21 N21
             walk_at "zs"
             rename Fr _ _ _ _ => F22
             rename News _ _ _ _ => N22
             have bhI : bh ∉ [I2] := hn₂ _ (HB.sub _ (.head _))
             refine eq_nil N22 (.tail _ (.head _)) (.head _) (Nat.le_of_ble_eq_true rfl) ?_
             cases ys with
             | nil =>
               dsimp only [List.isEmpty]
               walk_at "zs"
               refine PySem.Calls.getMethod_list_append (N22 _ (.tail _ (.tail _ (HF.sub _ mbh)))).1 rfl rfl ?_
               walk_at "zs"
               refine append_led F22 N22 (.tail _ (.tail _ (HF.sub _ mbh))) (by
                 have := hB.1
                 have := hbs.2.2.1
                 have hd' : d < 3 := hd
                 have hi' : i < tv.toArray.size := hi
                 have : tv.toArray.size = T.length := by simpa using hT.1
                 omega) ?_
               intro h23 F23 N23
               clear F22 N22
               walk_at "zs"
               (try dsimp only [ZTurn])
               refine ZNext.intro (news₂ := upd bh (listOf (bv ++ [Value.ref T']).toArray (nb + 1)) data2) F23 (fun p hp => ?_) (fun p hp => ?_) (hJJ _ _ _ ⟨bs ++ [up1 t d], bv ++ [.ref T'], nb + 1, cv2, HB.set hb2, hB.snocAt hone, hbs.add hin (up1_le (hTg t tT) d) hin2, e1, by walk_at "zlook", by walk_at "zlook", by walk_at "zlook"⟩)
               · rcases List.mem_append.mp hp with hp | hp
                 · exact N23 p (upd_keep (.tail _ (.tail _ (odZ p (List.mem_append_left _ hp)))) fun e => bhI (by rw [← e]; exact ho₃ p hp))
                 · rcases List.mem_cons.mp hp with rfl | hp
                   · exact N23 _ (.head _)
                   · obtain ⟨p1, p2⟩ := List.mem_filter.mp hp
                     exact N23 p (upd_keep (.tail _ (.tail _ (odZ p (List.mem_append_right _ p1)))) (of_decide_eq_true p2))
               · rcases List.mem_cons.mp hp with rfl | hp
                 · exact bhI
                 · exact hn₂ p (List.mem_filter.mp hp).1
             | cons y ys =>
               dsimp only [List.isEmpty]
               walk_at "zs"
               (try dsimp only [ZTurn])
               exact ZNext.intro F22 (fun p hp => N22 p (.tail _ (.tail _ (odZ p hp)))) hn₂ (hJJ _ _ _ ⟨bs, bv, nb, cv2, HB, hB, hbs.skip (fun e => by have := hys e; cases this), e1, by walk_at "zlook", by walk_at "zlook", by walk_at "zlook"⟩)
     · intro h' tk m' news' F15 N15 hJ0
       ((refine opq ?_); intro G' hG')
       obtain ⟨bs, bv, nb, cv2, HB2, hB, hbs, e1, e2, e3, e4⟩ := hJ0
       ((with_reducible rename Opq _ _ => hG'); (refine hG' ?_); clear hG'; (try dsimp only))
       walk_at "zs"
       (try dsimp only [ZTurn])
       have hPb : ∀ q ∈ (bh, listOf (List.toArray bv) nb) :: P2, q.1 ∉ [I] := fun q hq => by
         rcases List.mem_cons.mp hq with rfl | hq
         · exact fun e => hn₁ _ (HB.sub _ (.head _)) e
         · exact hPI q hq
       have HL := (HB2.less (P' := (bh, listOf (List.toArray bv) nb) :: P2) fun q hq => by
         rcases List.mem_cons.mp hq with rfl | hq
         · exact .head _
         · exact .tail _ (List.mem_append_right _ hq)).leave HB hn₁ hPb
       refine ZNext.intro F15 (fun p hp => ?_) (fun p hp => of_decide_eq_true (List.mem_filter.mp hp).2) (hJJ _ _ _ ⟨P2, bs, bv, nb, cv2, HL, fun q hq => pP2 q (hK q hq), fun q hq => hb2 q (List.mem_append_right _ hq), hB, hbs, e1, e2, e3, e4⟩)
       rcases List.mem_append.mp hp with hp | hp
       · exact N15 p (HB2.sub p (.tail _ (List.mem_append_left _ hp)))
       · exact N15 p (List.mem_filter.mp hp).1
   · intro h' tk m' news' F7 N7 hJ0
     walk_at "zs"
     refine hRR _ _ ⟨_, _, _, _, bh, b0, rfl, rfl, F7, N7, ?_, hb0⟩
     rw [show tv.toArray.size = T.length from by simpa using hT.1] at hJ0
     exact hJ0
 · clear b1 b2 b3 H1 H l1 H2 hb1 hb0 F5 N5
   intro f s' hR
   ((refine opq ?_); intro G' hG')
   obtain ⟨h6, tk6, m6, Z, bh, b0, rfl, rfl, F6, N6, ⟨P0, bs, bv, nb, cv, HB, hK, hb, hB, hbs, e1, e2, e3, e4⟩, hb0⟩ := hR
   ((with_reducible rename Opq _ _ => hG'); (refine hG' ?_); clear hG'; (try dsimp only))
   (with_reducible refine wpAny_execs_cons (blind ?_)); intro _ _; refine wpAny_For ?_
   walk_at "zs"
   refine kmk_add_lit (zs := tv ++ bv) F6 N6 (News.isList N6 (HB.sub _ (.tail _ (hK _ (.tail _ ht))))) (News.isList N6 (HB.sub _ (.head _))) (by simp) ?_ ?_
   rotate_left
   · have h1 := hT.1
     have h2 := hB.1
     have h3 := hbs.2.2.1
     have h4 : tv.toArray.toList.length = tv.length := by simp
     have h5 : bv.toArray.toList.length = bv.length := by simp
     rw [sizeLine_eq]
     omega
   intro D8 h8 F8 N8 hD8
   walk_at "zs"
   have hTB := (hT.more fun q hq => hK q (.tail _ hq)).append hB
   have hnd : (T ++ bs).Nodup := List.nodup_append.mpr ⟨hTn, hbs.1, fun a ha b hb e => (hbs.2.1 b hb).1 (e ▸ ha)⟩
   have hle : ∀ t ∈ T ++ bs, Le3 t := fun t ht => by
     rcases List.mem_append.mp ht with ht | ht
     · have := hTg t ht
       exact ⟨by omega, by omega, by omega⟩
     · exact (hbs.2.1 t ht).2
   have h2 : 2 ≤ (T ++ bs).length := by
     rw [List.length_append]
     by_cases c : T.length = 1
     · obtain ⟨x, hx⟩ := List.length_eq_one_iff.mp c
       have hx0 : x = (0, 0, 0) := by rw [hx] at hT0; exact Option.some.inj hT0
       have := hbs.2.2.2 (by omega) (by rw [hx, hx0])
       have := List.length_pos_iff.mpr this
       omega
     · omega
   refine sorted_tups F8 N8 (.head _) (P := P0) (fun q hq => .tail _ (HB.sub q (.tail _ hq))) hTB h2 (by rw [List.length_append]; have := hbs.2.2.1; omega) hle (fun i t0 t h0 hi ht => first_least hnd hT0 h0 hi ht) ?_
   intro DS hS nS us rs FS NS hDS hus hperm hsort
   have hPk : (P.map toI).length ≤ 15 := by rw [List.length_map, hPl]; exact hTl.2
   have hG0 := hJ bs us hbs.1 hbs.2.1 hperm hsort
   have hul : us.length < 64 := by rw [hperm.length_eq, List.length_append]; have := hbs.2.2.1; omega
   walk_at "zs"
   have HD := HB.adds (xs := [_, _]) NS rfl
   obtain ⟨PX, hPX⟩ : ∃ PX, PX = (DS, listOf (List.toArray rs) nS) :: (P0.filter fun q => decide (q.1 ≠ b0)) := ⟨_, rfl⟩
   have m0 := HB.sub _ (.tail _ (hK _ (.head _)))
   have HE := HD.less (P' := (b0, listOf #[] 0) :: PX) fun q hq => by
     rcases List.mem_cons.mp hq with rfl | hq
     · exact .tail _ (.tail _ (.tail _ (hK _ (.head _))))
     · rw [hPX] at hq
       rcases List.mem_cons.mp hq with rfl | hq
       · exact .head _
       · exact .tail _ (.tail _ (.tail _ (List.mem_filter.mp hq).1))
   have hbX : ∀ q ∈ PX, q.1 ≠ b0 := fun q hq => by
     rw [hPX] at hq
     rcases List.mem_cons.mp hq with rfl | hq
     · exact Nat.ne_of_gt (hDS _ (.tail _ m0))
     · exact of_decide_eq_true (List.mem_filter.mp hq).2
   have husX : TakenIs PX us rs := (TakenIs.off N6 (fun q hq => HB.sub q (.tail _ hq)) m0 hus).more fun q hq => by rw [hPX]; exact .tail _ hq
   have rX : ∀ q ∈ rest, q ∈ PX := fun q hq => by rw [hPX]; exact .tail _ (List.mem_filter.mpr ⟨hK _ (.tail _ hq), decide_eq_true (hb0 q hq)⟩)
   have mDS : (DS, listOf (List.toArray rs) nS) ∈ PX := by rw [hPX]; exact .head _
   clear hPX
   refine zlist hh FS NS (.head _) ?_
   intro I o O h9 SL hO hoff hown F9 N9
   refine zforL (SL _ (zgoT I)) (fun i m data => JsC _ T (P.map toI) us tl pl b0 PX i m data)
     (fun i m data hJ p hp => by obtain ⟨B, bv, nb, cv, PY, HB, hPY, _⟩ := hJ; rw [List.mem_singleton.mp hp]; exact HB.sub _ (.tail _ (hPY _ mDS))) F9 N9 hO hoff
     ⟨[], [], 0, _, PX, HE, fun q hq => hq, hbX, ⟨rfl, fun _ _ h => nomatch h⟩, (fun _ h => nomatch h), Nat.zero_le _, hG0, by walk_at "zlook", e2, e4⟩ ?_ ?_
   · clear F6 N6 F8 N8 FS NS F9 N9 hO hoff HD HE HB hG0 hus m0
     intro J' R' σ hJJ i v o₁ m₁ data h₁ tk₁ hi hJ0 hv hO₁ ho₁ hn₁ F7 N7
     ((refine opq ?_); intro G' hG')
     obtain ⟨B, bv, nb, cv, PY, HB, hPY, hbY, hBs, hBo, hBl, hG, e1, e2, e4⟩ := hJ0
     simp only [List.nil_append] at N7
     obtain ⟨t, T0, ht0, rfl, a1, a2, a3, z, k0⟩ := husX.get (by simpa using hv)
     ((with_reducible rename Opq _ _ => hG'); (refine hG' ?_); clear hG'; (try dsimp only))
     have HC := HB.app.addO HB (fun q hq => List.mem_append_left data hq) ho₁ hn₁
     have kT := HC.sub _ (List.mem_append_right _ (.tail _ (hPY _ k0)))
     refine zunp hh F7 N7 kT rfl rfl rfl rfl fun h8 F8 N8 => ?_
     walk_at "zs"
     rename Fr _ _ _ _ => F9
     rename News _ _ _ _ => N9
     refine storeX_H F9 N9 HC inj rfl ?_
     intro h10 Z1 F10 N10 HC1
     clear F9 N9
     walk_at "zs"
     refine storeX_H F10 N10 HC1 inj rfl ?_
     intro h11 Z2 F11 N11 HC2
     clear F10 N10
     walk_at "zs"
     refine storeX_H F11 N11 HC2 inj rfl ?_
     intro h12 Z3 F12 N12 HC3
     clear F11 N11 HC2 HC1 HC kT
     walk_at "zs"
     refine wpAny_Assign_Name ?_ (by exact rfl)
     refine zcompF F12 (by exact rfl) (by decide) (by exact rfl) (by decide) ?_
     walk_at "zs"
     have pX : ∀ q ∈ rest, q ∈ Z3 := fun q hq => HC3.sub _ (List.mem_append_right _ (.tail _ (hPY _ (rX q hq))))
     have hl3 : Le3 t := hle t (hperm.mem_iff.mp (List.mem_of_getElem? ht0))
     refine zlist hh F12 N12 (pX _ hp) ?_
     intro I4 o4 O4 h13 S4 hO4 hoff4 hown4 F13 N13
     refine zcl1O (names := ["a", "b", "c"]) hh (S4 _ (zgoT I4)) (fun i vals x => x = [] ∧ ∃ q a b c, P[i]? = some q ∧ vals = [.int (toI q).1 a, .int (toI q).2.1 b, .int (toI q).2.2 c]) (fun i ys nw => Z3 = nw ∧ i ≤ 15 ∧ IntsAre ys ((evP (P.map toI) (mono t)).take i))
       ?_ ?_ (by exact rfl) (by decide) F13 N13 hO4 hoff4 ⟨rfl, Nat.zero_le _, .nil⟩ ?_ ?_
     · rintro i ys nw ⟨rfl, h15, hi⟩
       exact ⟨fun p hq => by rw [List.mem_singleton.mp hq]; exact pX _ hp, by rw [IntsAre.length hi, List.length_take]; exact Nat.le_trans (Nat.min_le_left _ _) (Nat.le_trans (m := 15) (by assumption) (by decide))⟩
     · rintro i v x t5 u5 ys nw hi' ⟨rfl, _⟩ ⟨h1, rfl⟩
       obtain ⟨q, T5, hq, rfl, a, b, c, z, k⟩ := hP.get (by simpa using h1)
       exact ⟨_, ⟨rfl, q, a, b, c, hq, rfl⟩, .three (pX _ k) rfl rfl⟩
     · intro J' σ hJJ C D2 i vals x o m₅ oC ys nw h19 tk19 hi' hJ0 hV0 ho hxx hnn hC F19 N19
       ((refine opq ?_); intro G' hG')
       obtain ⟨rfl, h15, hys⟩ := hJ0
       obtain ⟨rfl, q, a, b, c, hq, rfl⟩ := hV0
       ((with_reducible rename Opq _ _ => hG'); (refine hG' ?_); clear hG'; (try dsimp only))
       obtain ⟨g1, g2, g3⟩ := hPg q (List.mem_of_getElem? hq)
       refine compTests_nil ?_
       walk_at "zs"
       with_reducible refine pow_at (by k_dflt exact g1) (by k_dflt exact hl3.1) ?_
       walk_at "zs"
       with_reducible refine pow_at (by k_dflt exact g2) (by k_dflt exact hl3.2.1) ?_
       walk_at "zs"
       with_reducible refine mul_at (by k_dflt exact pow_lt g2 hl3.2.1) ?_
       walk_at "zs"
       with_reducible refine pow_at (by k_dflt exact g3) (by k_dflt exact hl3.2.2) ?_
       walk_at "zs"
       with_reducible refine mul_at (by k_dflt exact pow_lt g3 hl3.2.2) ?_
       walk_at "zs"
       refine CNext.intro hC F19 N19 (.head _) (.tail _ (.head _)) (fun p hp => .tail _ (.tail _ (List.mem_append_right [] (List.mem_append_left _ hp)))) (fun p hp => .tail _ (.tail _ (List.mem_append_right [] (List.mem_append_right o hp)))) hnn (hJJ _ _ _ ⟨rfl, ?_, ?_⟩)
       · have := (List.getElem?_eq_some_iff.mp hq).1
         omega
       · exact ev_snoc hys hq
     · rintro D2 ys nw hD2 ⟨rfl, _, hys⟩
       intro h15 tk15 F15 N15
       rw [List.take_of_length_le (by rw [evP_len]; simp [hP.1])] at hys
       walk_at "zs"
       have hBz : B.take bv.toArray.size = B := List.take_of_length_le (by rw [List.size_toArray, hBs.1]; exact Nat.le_refl _)
       have HW := HC3.adds (xs := [_]) N15 rfl
       refine storeX_H F15 N15 HW inj rfl ?_
       intro h16 Z4 F16 N16 HX
       clear F13 N13 hO4 hoff4 hown4 N12 HC3 F15 N15 HW F12
       ((with_reducible rename Bl _ _ => hB'); (refine hB' _ _ ?_); clear hB'; (try dsimp only))
       (with_reducible refine wpAny_execs_cons (blind ?_)); intro _ _; refine wpAny_For ?_
       walk_at "zs"
       refine zlist hh F16 N16 (HX.sub _ (.tail _ (List.mem_append_right o₁ (.head _)))) ?_
       intro I5 o5 O5 h17 S5 hO5 hoff5 hown5 F17 N17
       refine zforL (S5 _ (zgoT I5)) (fun i m data => JsD _ (o₁ ++ (b0, listOf (List.toArray bv) nb) :: PY) t (P.map toI).length B (evP (P.map toI) (mono t)) tl pl b0 i m data)
         (fun i m data hJ p hp => by obtain ⟨R, rv, k, cv, HB, _⟩ := hJ; rw [List.mem_singleton.mp hp]; exact HB.sub _ (.tail _ (List.mem_append_right o₁ (.head _)))) F17 N17 hO5 hoff5
         ⟨_, _, _, _, HX, hys, evP_row _, by walk_at "zlook", by walk_at "zlook", ⟨a1, a2, a3, by walk_at "zlook", by walk_at "zlook", by walk_at "zlook"⟩, by walk_at "zlook", by walk_at "zlook"⟩ ?_ ?_
       · clear F16 N16 F17 N17 hO5 hoff5 HX hys
         intro J' R' σ hJJ d v o₃ m₃ data2 h₂ tk₂ hd hJ0 hv hO₃ ho₃ hn₂ F15 N15
         ((refine opq ?_); intro G' hG')
         obtain ⟨R, rv, rk, cv2, HR, hr, hrl, e1, e5, ⟨a1, a2, a3, e6, e7, e8⟩, e2, e4⟩ := hJ0
         refine x7a5 (hBs.get (by simpa using hv)) ?_; rintro e T' l' lv lk lz la he rfl mT ml hlv
         obtain ⟨hep, hel'⟩ := hBo e (List.mem_of_getElem? he)
         refine x2a2 (row_at hr (by rw [hrl.1]; exact hep)) ?_; rintro xa ta hxa hxe
         ((with_reducible rename Opq _ _ => hG'); (refine hG' ?_); clear hG'; (try dsimp only))
         simp only [List.nil_append] at N15
         have HC := HR.app.addO HR (fun q hq => List.mem_append_left data2 hq) ho₃ hn₂
         refine zunp hh F15 N15 (HC.sub _ (List.mem_append_right _ (.tail _ (List.mem_append_right o₁ (.tail _ mT))))) rfl rfl rfl rfl fun h18 F18 N18 => ?_
         walk_at "zs"
         rename Fr _ _ _ _ => F19
         rename News _ _ _ _ => N19
         refine storeX_H F19 N19 HC inj rfl ?_
         intro h20 Z5 F20 N20 HC5
         clear F19 N19
         walk_at "zs"
         rename Fr _ _ _ _ => F21
         rename News _ _ _ _ => N21
         refine wpAny_Assign_Name ?_ (by exact rfl)
         refine zcompF F21 (by exact rfl) (by decide) (by exact rfl) (by decide) ?_
         walk_at "zs"
         have mR := HC5.sub _ (List.mem_append_right o₃ (.head _))
         have mL := HC5.sub _ (List.mem_append_right o₃ (.tail _ (List.mem_append_right o₁ (.tail _ ml))))
         refine zzip hh F21 N21 mR mL ?_
         intro I6 ow6 o6 O6 h22 S6 hO6 hoff6 hown6 F22 N22
         walk_at "zs"
         refine (S6 [] 0 default).self 0 o6 _ _ _ _ _ _ hO6 (fun p hp => by
           rcases List.mem_cons.mp hp with rfl | hp
           · exact mR
           · rw [List.mem_singleton.mp hp]; exact mL) N22 ?_
         refine zcl1O (names := ["one", "two"]) hh (S6 _ _ _) (fun i vals x => ∃ T ob a b x1 x2 z, rv[i]? = some (.int x1 a) ∧ lv[i]? = some (.int x2 b) ∧ vals = [.int x1 a, .int x2 b] ∧ x = [(T, ob)] ∧ ob.cls = .type "tuple" ∧ ob.data = .seq #[.int x1 a, .int x2 b] z) (fun i ys nw => Z5 = nw ∧ i ≤ 15 ∧ IntsAre ys ((red1 (redB (B.take d) (evP (P.map toI) (mono t))) e).take i))
           ?_ ?_ (by exact rfl) (by decide) F22 N22 hO6 hoff6 ⟨rfl, Nat.zero_le _, .nil⟩ ?_ ?_
         · rintro i ys nw ⟨rfl, h15, hi⟩
           exact ⟨fun p hq => by
             rcases List.mem_cons.mp hq with rfl | hq
             · exact mR
             · rw [List.mem_singleton.mp hq]; exact mL, by rw [IntsAre.length hi, List.length_take]; exact Nat.le_trans (Nat.min_le_left _ _) (Nat.le_trans (m := 15) (by assumption) (by decide))⟩
         · rintro i v x t5 u5 ys nw hi' ⟨rfl, _⟩ ⟨T, vals, ob, rfl, rfl, ⟨a, b, ha, hb, rfl⟩, hc, z, hd2⟩
           refine x2a2 (IntsAre.at hr i a (by simpa using ha)) ?_; rintro x1 a rfl _
           refine x2a2 (IntsAre.at hlv i b (by simpa using hb)) ?_; rintro x2 b rfl _
           exact ⟨_, ⟨T, ob, a, b, x1, x2, z, by simpa using ha, by simpa using hb, rfl, rfl, hc, hd2⟩, .two (.head _) hc hd2⟩
         · intro J' σ hJJ C D2 i vals x o m₅ oC ys nw h19 tk19 hi' hJ0 hV0 ho hxx hnn hC F19 N19
           ((refine opq ?_); intro G' hG')
           obtain ⟨rfl, h15, hys⟩ := hJ0
           refine x7a6 hV0 ?_; clear hV0; rintro T ob a b x1 x2 z hx1 hx2 rfl rfl hc hd2
           have g2 := hel'.2 x2 (List.mem_of_getElem? (ints_get hlv hx2))
           ((with_reducible rename Opq _ _ => hG'); (refine hG' ?_); clear hG'; (try dsimp only))
           refine compTests_nil ?_
           walk_at "zs"
           refine item_any (News.isList N19 (.tail _ (.tail _ (List.mem_append_right [_] (List.mem_append_right o mR))))) (fit62 hep hPk) hxa ?_
           walk_at "zs"
           with_reducible refine mul_at (lt5 g2) ?_
           walk_at "zs"
           refine CNext.intro hC F19 N19 (.head _) (.tail _ (.head _)) (fun p hp => .tail _ (.tail _ (List.mem_append_right [_] (List.mem_append_left _ hp)))) (fun p hp => .tail _ (.tail _ (List.mem_append_right [_] (List.mem_append_right o hp)))) hnn (hJJ _ _ _ ⟨rfl, ?_, ?_⟩)
           · have := (List.getElem?_eq_some_iff.mp hx1).1
             have := IntsAre.length hr
             have := hrl.1
             omega
           · exact take_snoc hys (red1_get (ints_get hr hx1) (ints_get hlv hx2) hxe)
         · rintro D2 ys nw hD2 ⟨rfl, _, hys⟩
           intro h15 tk15 F15 N15
           clear F22 N22 N21 F21 hoff6
           walk_at "zs"
           have HW := HC5.adds (xs := [_]) N15 rfl
           refine storeX_H F15 N15 HW inj rfl ?_
           intro h16 Z6 F16 N16 HX
           walk_at "zs"
           (try dsimp only [ZTurn])
           ((refine opq ?_); intro G' hG')
           have hdi : D2 ∉ [I5] := fun e2 => by
             obtain ⟨obI, lI⟩ := (S5 (.Name "" default) (zgoN I5)).live _ _ hO₃ I5 (.head _)
             exact hD2 _ (HC5.sub _ (List.mem_append_left _ lI)) (List.mem_singleton.mp e2).symm
           have HL := (HX.less (P' := (D2, listOf (List.toArray ys) ys.length) :: (o₁ ++ (b0, listOf (List.toArray bv) nb) :: PY)) fun q hq => by
             rcases List.mem_cons.mp hq with rfl | hq
             · exact .head _
             · exact .tail _ (List.mem_append_right o₃ (.tail _ hq))).leave HR hn₂ fun q hq => by
               rcases List.mem_cons.mp hq with rfl | hq
               · exact hdi
               · exact hn₂ _ (HR.sub _ (.tail _ hq))
           have hys2 : IntsAre ys (redB (B.take (d + 1)) (evP (P.map toI) (mono t))) := by
             rw [redB_snoc he]
             rw [List.take_of_length_le (by rw [(red1_row hrl hel').1, List.size_toArray, List.size_toArray, IntsAre.length hr, IntsAre.length hlv, hrl.1, hel'.1, Nat.min_self]; exact Nat.le_refl _)] at hys
             exact hys
           have hrl2 : RowOk (P.map toI).length (redB (B.take (d + 1)) (evP (P.map toI) (mono t))) := by
             rw [redB_snoc he]; exact red1_row hrl hel'
           ((with_reducible rename Opq _ _ => hG'); (refine hG' ?_); clear hG'; (try dsimp only))
           refine ZNext.intro F16 (fun p hp => ?_) (fun p hp => of_decide_eq_true (List.mem_filter.mp hp).2) (hJJ _ _ _ ⟨D2, ys, ys.length, _, HL, hys2, hrl2, by walk_at "zlook", by walk_at "zlook", ⟨a1, a2, a3, by walk_at "zlook", by walk_at "zlook", by walk_at "zlook"⟩, by walk_at "zlook", by walk_at "zlook"⟩)
           rcases List.mem_append.mp hp with hp | hp
           · exact N16 p (HX.sub p (List.mem_append_right [_] (List.mem_append_left _ hp)))
           · exact N16 p (List.mem_filter.mp hp).1
       · intro h18 tk18 m18 Z7 F18 N18 hJ0
         ((refine opq ?_); intro G' hG')
         obtain ⟨R, rv, rk, cv2, HR, hr, hrl, e1, e5, ⟨a1, a2, a3, e6, e7, e8⟩, e2, e4⟩ := hJ0
         rw [hBz] at hr hrl
         have hrw : RowIs rv _ := ⟨hr⟩
         clear hr
         ((with_reducible rename Opq _ _ => hG'); (refine hG' ?_); clear hG'; (try dsimp only))
         have pZ : ∀ q ∈ rest, q ∈ Z7 := fun q hq => HR.sub _ (.tail _ (List.mem_append_right o₁ (.tail _ (hPY _ (rX q hq)))))
         walk_at "zs"
         refine wpAny_Assign_Name ?_ (by exact rfl)
         refine zcompF F18 (by exact rfl) (by decide) (by exact rfl) (by decide) ?_
         walk_at "zs"
         have hpl : pv.length = (P.map toI).length := by rw [List.length_map, hP.1]
         have hpv : pv.toArray.size = (P.map toI).length := by rw [List.size_toArray, hpl]
         refine PySem.Calls.call_len_list (News.isList N18 (pZ _ hp)) (by rw [hpv]; omega) ?_
         walk_at "zs"
         rename IsRange _ _ _ _ _ _ _ _ => hR
         rename Fr _ _ _ _ => F19
         rename News _ _ _ _ => N19
         have mR := HR.sub _ (.head _)
         refine zrange (n := (P.map toI).length) hh F19 N19 hR (by rw [hpl]; exact range1_small _ (Nat.le_trans hPk (by decide))) (by rw [hpl]; exact range1_size _ (Nat.le_trans hPk (by decide))) ?_
         intro I6 o6 O6 h20 S6 hO6 hoff6 hown6 F20 N20
         refine zcl1O (names := ["at"]) hh (S6 _ _) (fun i vals x => ∃ t, vals = [.int (i : Int) t] ∧ x = []) (fun i ys nw => Z7 = nw ∧ i ≤ 15 ∧ IntsAre ys (placesI (redB B (evP (P.map toI) (mono t))) i))
           ?_ ?_ (by exact rfl) (by decide) F20 N20 hO6 hoff6 ⟨rfl, Nat.zero_le _, .nil⟩ ?_ ?_
         · rintro i ys nw ⟨rfl, h15, hi⟩
           exact ⟨fun p hq => (nomatch hq), by
             rw [IntsAre.length hi]
             have := placesI_len (redB B (evP (P.map toI) (mono t))) i
             omega⟩
         · rintro i v x t5 u5 ys nw hi' ⟨rfl, _⟩ ⟨⟨t', rfl⟩, rfl⟩
           rw [zi]
           exact ⟨_, ⟨t', rfl, rfl⟩, .name⟩
         · intro J' σ hJJ C D2 i vals x o m₅ oC ys nw h19 tk19 hi' hJ0 hV0 ho hxx hnn hC F21 N21
           ((refine opq ?_); intro G' hG')
           obtain ⟨rfl, h15, hys⟩ := hJ0
           obtain ⟨t', rfl, rfl⟩ := hV0
           refine x2a2 (row_at hrw.isI (by rw [hrl.1]; exact hi')) ?_; rintro xa ta hxa hxe
           ((with_reducible rename Opq _ _ => hG'); (refine hG' ?_); clear hG'; (try dsimp only))
           walk_at "zs"
           refine item_any (News.isList N21 (.tail _ (.tail _ (List.mem_append_right [] (List.mem_append_right o mR))))) (fit62 hi' hPk) hxa ?_
           walk_at "zs"
           · exact CNext.intro hC F21 N21 (.head _) (.tail _ (.head _)) (fun p hp => .tail _ (.tail _ (List.mem_append_right [] (List.mem_append_left _ hp)))) (fun p hp => .tail _ (.tail _ (List.mem_append_right [] (List.mem_append_right o hp)))) hnn (hJJ _ _ _ ⟨rfl, Nat.le_trans hi' hPk, placesI_yes hys hxe (by assumption)⟩)
           · rename xa = 0 => hx0
             exact CNext.intro hC F21 N21 (.head _) (.tail _ (.head _)) (fun p hp => .tail _ (.tail _ (List.mem_append_right [] (List.mem_append_left _ hp)))) (fun p hp => .tail _ (.tail _ (List.mem_append_right [] (List.mem_append_right o hp)))) hnn (hJJ _ _ _ ⟨rfl, Nat.le_trans hi' hPk, placesI_no hys hxe (fun h => h hx0)⟩)
         · rintro D2 ys nw hD2 ⟨rfl, _, hys⟩
           intro h15 tk15 F15 N15
           walk_at "zs"
           have HP := HR.adds (xs := [_]) N15 rfl
           refine storeX_H F15 N15 HP inj rfl ?_
           intro h23 Z8 F23 N23 HX
           clear F15 N15 HP F20 N20 hoff6 N19 F19 hR
           have pZ8 : ∀ q ∈ rest, q ∈ Z8 := fun q hq => HX.sub _ (.tail _ (.tail _ (List.mem_append_right o₁ (.tail _ (hPY _ (rX q hq))))))
           have m2 := HX.sub _ (.head _)
           rcases justGo_step hG ht0 with ⟨g1, g2, g3⟩ | ⟨p, q, g1, g2, g3⟩
           · obtain rfl := places_nil hys g1
             walk_at "zs"
             rename Fr _ _ _ _ => F24
             rename News _ _ _ _ => N24
             refine ne_nil N24 (.tail _ m2) (.head _) (Nat.le_of_ble_eq_true rfl) ?_
             walk_at "zs"
             rename Fr _ _ _ _ => F25
             rename News _ _ _ _ => N25
             refine in_takenN (t := t) N25 (.tail _ (.tail _ (pZ8 _ ht))) (hT.more fun q hq => .tail _ (.tail _ (pZ8 q hq))) TupAt.here (Nat.le_of_ble_eq_true rfl) g2 ?_
             walk_at "zs"
             rename Fr _ _ _ _ => F26
             rename News _ _ _ _ => N26
             refine ne_nil N26 (.tail _ (.tail _ (.tail _ m2))) (.head _) (Nat.le_of_ble_eq_true rfl) ?_
             walk_at "zs"
             (try dsimp only [ZTurn])
             ((refine opq ?_); intro G' hG')
             have HL := (HX.less (P' := (b0, listOf (List.toArray bv) nb) :: PY) fun q hq => .tail _ (.tail _ (List.mem_append_right o₁ hq))).leave HB hn₁ fun q hq => hn₁ _ (HB.sub _ hq)
             ((with_reducible rename Opq _ _ => hG'); (refine hG' ?_); clear hG'; (try dsimp only))
             refine ZNext.intro F26 (fun p hp => ?_) (fun p hp => of_decide_eq_true (List.mem_filter.mp hp).2) (hJJ _ _ _ ⟨B, bv, nb, _, _, HL, hPY, hbY, hBs, hBo, Nat.le_succ_of_le hBl, g3, by walk_at "zlook", by walk_at "zlook", by walk_at "zlook"⟩)
             rcases List.mem_append.mp hp with hp | hp
             · exact N26 p (.tail _ (.tail _ (.tail _ (HX.sub p (.tail _ (.tail _ (List.mem_append_left _ hp)))))))
             · exact N26 p (.tail _ (.tail _ (.tail _ (List.mem_filter.mp hp).1)))
           · obtain ⟨u, yr, rfl⟩ := places_cons hys g1
             have hp15 := places_lt g1
             refine x2a2 (row_at hrw.isI (by rw [hrl.1]; exact hp15)) ?_; rintro xp tp hxp hxe
             have gp := hrl.2 xp (List.mem_of_getElem? hxe)
             walk_at "zs"
             rename Fr _ _ _ _ => F24
             rename News _ _ _ _ => N24
             refine ne_cons N24 (.tail _ m2) (.head _) (Nat.le_of_ble_eq_true rfl) ?_
             walk_at "zs"
             rename Fr _ _ _ _ => F25
             rename News _ _ _ _ => N25
             refine in_takenY (t := t) N25 (.tail _ (.tail _ (pZ8 _ ht))) (hT.more fun q hq => .tail _ (.tail _ (pZ8 q hq))) TupAt.here (Nat.le_of_ble_eq_true rfl) g2 ?_
             walk_at "zs"
             rename Fr _ _ _ _ => F26
             rename News _ _ _ _ => N26
             refine ne_cons N26 (.tail _ (.tail _ (.tail _ m2))) (.head _) (Nat.le_of_ble_eq_true rfl) ?_
             have mb := HX.sub _ (.tail _ (.tail _ (List.mem_append_right o₁ (.head _))))
             have mR8 := HX.sub _ (.tail _ (.head _))
             walk_at "zs"
             refine PySem.Calls.getMethod_list_append (N26 _ (.tail _ (.tail _ (.tail _ mb)))).1 rfl rfl ?_
             walk_at "zs"
             refine item_any (News.isList N26 (.tail _ (.tail _ (.tail _ m2)))) (k := 0) (by decide) rfl ?_
             walk_at "zs"
             rename Fr _ _ _ _ => F27
             rename News _ _ _ _ => N27
             refine zcompF F27 (by exact rfl) (by decide) (by exact rfl) (by decide) ?_
             walk_at "zs"
             obtain ⟨Z9, N28, up9⟩ := hide3 N27
             clear N27
             have H9 := HX.more up9
             refine zlist hh F27 N28 (up9 _ mR8) ?_
             intro I7 o7 O7 h29 S7 hO7 hoff7 hown7 F29 N29
             refine zcl1O (names := ["one"]) hh (S7 _ (zgoN I7)) (fun i vals x => ∃ x1 a, rv[i]? = some (.int x1 a) ∧ vals = [.int x1 a] ∧ x = []) (fun i ys nw => Z9 = nw ∧ i ≤ 15 ∧ IntsAre ys ((normAt (redB B (evP (P.map toI) (mono t))) p).take i))
               ?_ ?_ (by exact rfl) (by decide) F29 N29 hO7 hoff7 ⟨rfl, Nat.zero_le _, .nil⟩ ?_ ?_
             · rintro i ys nw ⟨rfl, h15, hi⟩
               exact ⟨fun p hq => by rw [List.mem_singleton.mp hq]; exact up9 _ mR8, by rw [IntsAre.length hi, List.length_take]; exact Nat.le_trans (Nat.min_le_left _ _) (Nat.le_trans (m := 15) (by assumption) (by decide))⟩
             · rintro i v x t5 u5 ys nw hi' ⟨rfl, _⟩ ⟨h1, rfl⟩
               refine x2a2 (IntsAre.at hrw.isI i v (by simpa using h1)) ?_; rintro x1 a rfl _
               exact ⟨_, ⟨x1, a, by simpa using h1, rfl, rfl⟩, .name⟩
             · intro J' σ hJJ C D3 i vals x o m₅ oC zs nw h19 tk19 hi' hJ0 hV0 ho hxx hnn hC F21 N21
               ((refine opq ?_); intro G' hG')
               obtain ⟨rfl, h15, hzs⟩ := hJ0
               refine x2a3 hV0 ?_; clear hV0; rintro x1 a hx1 rfl rfl
               ((with_reducible rename Opq _ _ => hG'); (refine hG' ?_); clear hG'; (try dsimp only))
               refine compTests_nil ?_
               walk_at "zs"
               refine item_any (News.isList N21 (.tail _ (.tail _ (List.mem_append_right [] (List.mem_append_right o (up9 _ m2)))))) (k := 0) (by decide) rfl ?_
               walk_at "zs"
               refine item_any (News.isList N21 (.tail _ (.tail _ (List.mem_append_right [] (List.mem_append_right o (up9 _ mR8)))))) (fit62 hp15 hPk) hxp ?_
               walk_at "zs"
               with_reducible refine pow3 gp ?_
               walk_at "zs"
               with_reducible refine mul_at (cube_lt gp) ?_
               walk_at "zs"
               refine CNext.intro hC F21 N21 (.head _) (.tail _ (.head _)) (fun p hp => .tail _ (.tail _ (List.mem_append_right [] (List.mem_append_left _ hp)))) (fun p hp => .tail _ (.tail _ (List.mem_append_right [] (List.mem_append_right o hp)))) hnn (hJJ _ _ _ ⟨rfl, ?_, take_snoc hzs (norm_get (ints_get hrw.isI hx1) hxe)⟩)
               have := (List.getElem?_eq_some_iff.mp hx1).1
               have := IntsAre.length hrw.isI
               have := hrl.1
               omega
             · rintro D3 zs nw hD3 ⟨rfl, _, hzs⟩
               intro h15 tk15 F15 N15
               clear F29 N29 hoff7 F27 N28
               walk_at "zs"
               rename Fr _ _ _ _ => F30
               rename News _ _ _ _ => N30
               rename (_ < _ ∧ AllLt _ Z9) => q1
               rename Addr => Tn
               refine append_led F30 N30 (.tail _ (.tail _ (up9 _ mb))) (by
                 have := hBs.1
                 have := husX.1
                 have hi' : i < rs.length := hi
                 omega) ?_
               intro h31 F31 N31
               walk_at "zs"
               (try dsimp only [ZTurn])
               ((refine opq ?_); intro G' hG')
               obtain ⟨obI, lI⟩ := (SL (.Name "" default) (zgoN I)).live _ _ hO₁ I (.head _)
               refine x1a3 (base_pack (ob' := listOf (bv ++ [Value.ref Tn]).toArray (nb + 1)) H9 N30 rfl rfl HB hn₁ hbY (fun q hq => AllLt.mem q1.2 q hq) hD3 lI) ?_; rintro PY2 hPY2 HL hbY2
               have hzs2 : IntsAre zs (normAt (redB B (evP (P.map toI) (mono t))) p) := by
                 rw [List.take_of_length_le (by rw [(norm_row hrl).1, List.size_toArray, IntsAre.length hrw.isI, hrl.1]; exact Nat.le_refl _)] at hzs
                 exact hzs
               have hBs2 : BaseIs PY2 (B ++ [(p, normAt (redB B (evP (P.map toI) (mono t))) p)]) (bv ++ [Value.ref Tn]) := by
                 rw [hPY2]; exact hBs.snoc hzs2
               have hBo2 : ∀ e ∈ B ++ [(p, normAt (redB B (evP (P.map toI) (mono t))) p)], e.1 < (P.map toI).length ∧ RowOk (P.map toI).length e.2 := fun e he => by
                 rcases List.mem_append.mp he with he | he
                 · exact hBo e he
                 · rw [List.mem_singleton.mp he]; exact ⟨hp15, norm_row hrl⟩
               have hBl2 : (B ++ [(p, normAt (redB B (evP (P.map toI) (mono t))) p)]).length ≤ i + 1 := by
                 rw [List.length_append]; exact Nat.succ_le_succ hBl
               have hob : ∀ q ∈ o₁, q.1 ≠ b0 := fun q hq e => hn₁ _ (HB.sub _ (.head _)) (by rw [← e]; exact ho₁ q hq)
               ((with_reducible rename Opq _ _ => hG'); (refine hG' ?_); clear hG'; (try dsimp only))
               refine ZNext.intro F31 (fun p hp => ?_) (fun p hp => of_decide_eq_true (List.mem_filter.mp hp).2) (hJJ _ _ _ ⟨B ++ [_], bv ++ [Value.ref Tn], nb + 1, _, PY2, HL, fun q hq => by rw [hPY2]; exact .tail _ (.tail _ (hPY q hq)), hbY2, hBs2, hBo2, hBl2, g3, by walk_at "zlook", by walk_at "zlook", by walk_at "zlook"⟩)
               rcases List.mem_append.mp hp with hp | hp
               · exact N31 p (upd_keep (.tail _ (.tail _ (H9.sub p (.tail _ (.tail _ (List.mem_append_left _ hp)))))) (hob p hp))
               · exact N31 p (List.mem_filter.mp hp).1
   · intro h' tk m' news' F7 N7 hJ0
     ((refine opq ?_); intro G' hG')
     obtain ⟨B, bv, nb, cv, PY, HB, hPY, hbY, hBs, hBo, hBl, hG, e1, e2, e4⟩ := hJ0
     ((with_reducible rename Opq _ _ => hG'); (refine hG' ?_); clear hG'; (try dsimp only))
     walk_at "zs"
     have pN : ∀ q ∈ rest, q ∈ news' := fun q hq => HB.sub _ (.tail _ (hPY _ (rX q hq)))
     refine PySem.Calls.call_len_list (News.isList N7 (pN _ ht)) (by rw [List.size_toArray, hT.1]; omega) ?_
     walk_at "zs"
     refine PySem.Calls.call_len_list (News.isList N7 (pN _ hp)) (by rw [List.size_toArray, hP.1]; omega) ?_
     walk_at "zs"
     have eb : (((tv.toArray.size : Nat) : Int) == ((pv.toArray.size : Nat) : Int)) = true := by
       rw [List.size_toArray, List.size_toArray, hT.1, hP.1, hPl]; exact beq_self_eq_true _
     rename Fr h₀ L _ m => kF
     rename News h₀ L _ news' => kN
     rw [eb]
     exact h _ _ kF fun p hp => kN p (pN p hp)
end
end
section
inductive HZLW : {α : Type} → Sem α → Prop
 | c0 (a1) : HZLW (pyIter a1)
 | c1 (a1 a2 a3) : HZLW (call (Value.ref a1) a2 a3)
 | c2 (a1 a2 a3 a4 a5) : HZLW (eval (Expr.SetComp a1 a2 a3 a4) a5)
 | c3 (a1 a2) : HZLW (storeName a1 (Str.ofString "octets") a2)
 | c4 (a1 a2) : HZLW (storeName a1 (Str.ofString "codes") a2)
 | c5 (a1 a2) : HZLW (storeName a1 (Str.ofString "taken") a2)
 | c6 (a1 a2) : HZLW (call (Value.builtin "sorted") a1 a2)
 | c7 (a1 a2) : HZLW (call (Value.type "bytes") a1 a2)
 | c8 (a1 a2) : HZLW (compareOp CmpOp.NotIn a1 a2)
 | c9 (a1 a2) : HZLW (compareOp CmpOp.Eq (Value.ref a1) a2)
 | c10 (a1 a2) : HZLW (compareOp CmpOp.NotEq (Value.ref a1) a2)
 | c11 (a1 a2 a3 a4 a5 a6) : HZLW (subscriptTail a1 a2 (Value.bytes a3 a4) (Value.int a5 a6))
 | c12 (a1 a2 a3) : HZLW (unpackItems a1 a2 a3)
 | c13 (a1 a2) : HZLW (call (Value.builtin "isinstance") a1 a2)
namespace ZLW
theorem hzt {α : Type} {M : Model} {A : Around} {t : Sem α} {Q : α → Shared → Prop} {E : Value → Shared → Prop} {s : Shared} (_ : HZLW t) (h : wpAny M A t Q E s) : wpAny M A t Q E s := h
end ZLW
open ZLW
set_option maxHeartbeats 8000000 in
theorem law_holds : PySem.Challenge.rw_wy0029_01.Holds := by
 refine hd ?_
 k_fill
 intro w s₀ s₁ mg mb G Y fa o pm cd doc dV kV ho hd hcd hD hmg hg args vals as hpre hlay hrd hwl hlo
 have KX := km_in_of Y
 km_tabs Y
 have X := (Ground.X G).1
 have V := (Ground.X G).2
 refine Ground.open G ?_
 intro T B D TE TW
 try (refine guard_noD D (by decide +kernel) ?_; clear D)
 km_lay T hmg ho hd cd
 clear hmg
 wrow_args hpre hlay hrd hwl hlo
 refine enter_callC ?_
 refine kn_postC hT9 (fun _ _ => rfl) ?_
 have K0 := below_caller (Top.heap T)
 have he := Dflts.none hD rfl
 subst he
 have he := Dflts.noKw hD
 subst he
 refine call_cellsC (by decide) ho (fd_plain hd) (Top.nolimit T) hcd rfl (kinds_of (by kinds_ok)) (by decide) fun h₁ tk₁ cells F N0 X0 => ?_
 clear hd hcd ho
 kn_ghosts F T
 dsimp only
 rename News (ghostOf _ _) _ _ _ => N1
 rename CellsAre _ _ _ => Y1
 have l1 : ∀ p ∈ [(123, tabObj #[]), (104, tabObj #[])], @LT.lt Nat _ p.1 s₁.heap.objs.size := fun p hp => by
   rename (_ < _ ∧ _ < _) => l0
   rcases List.mem_cons.mp hp with rfl | hp
   · exact l0.1
   · rw [List.mem_singleton.mp hp]; exact l0.2
 refine hold_open (ns := ["taken", "codes", "octets"]) (cv := fun _ => none) N1 Y1 l1 rfl (by simp only [List.forall_mem_cons]; exact ⟨rfl, rfl, rfl, fun _ h => nomatch h⟩) ?_
 clear Y1 N1
 intro led N2 H inj hcl
 refine wpC_noRaise (blindC ?_)
 intro Q0 hQ0
 /- octets, words, hung -/
 refine wpC_execs_cons (wpC_of (blind ?_))
 intro Q1 hQ1
 walk_at "zs"
 rename Fr _ _ _ _ => F3
 rename IntsAre _ _ => hI
 rename (¬ _ < _) => hlen
 refine octets_ok (by exact .mk (Nat.le_of_ble_eq_true rfl) (Nat.le_of_ble_eq_true rfl) rfl rfl rfl (by assumption) (by assumption) (by assumption) (by assumption) (by assumption)) rfl F3 N2 (by assumption) hI (by
   have := IntsAre.length hI
   omega) ?_
 clear F3 N2
 intro h4 tk4 t4 oc F4 N4 hoc hoc3
 obtain ⟨m0, F4⟩ : ∃ m0, Fr _ _ _ m0 := ⟨_, F4⟩
 have h3 : ∀ j, (oc.getD j 0).toNat < 3 := fun j => by
   rw [Array.getD_eq_getD_getElem?]
   cases e : oc[j]? with
   | none => decide
   | some y => exact hoc3 y (by rw [Array.mem_toList_iff]; exact Array.mem_of_getElem? e)
 dsimp only
 walk_at "zs"
 rename Fr _ _ _ _ => F5
 rename News _ _ _ _ => N5
 rename (∀ p ∈ led, @LT.lt Nat _ p.1 _) => q1
 rename (_ < _ ∧ AllLt _ led) => q2
 rename (_ < _ ∧ _ < _ ∧ AllLt _ led) => q3
 dsimp only
 have H1 := H.adds (xs := [_, _, _]) N5 rfl
 refine storeX_H F5 N5 H1 inj rfl ?_
 intro h6 Z1 F6 N6 H2
 clear F5 N5 H1
 walk_at "zs"
 rename Fr _ _ _ _ => F7
 rename News _ _ _ _ => N7
 have H3 := H2.less (P' := _ :: _ :: [(123, tabObj #[]), (104, tabObj #[])]) fun q hq => .tail _ hq
 clear H2
 refine x2a2 (name2 H3) ?_; rintro hs ws rfl rfl
 have wh : ws ≠ hs := Nat.ne_of_lt q2.1
 have f104 : @Ne Nat 104 ws ∧ @Ne Nat 104 hs ∧ @Ne Nat 123 ws ∧ @Ne Nat 123 hs := by
   have g1 := q1 _ (H.sub _ (.head _))
   have g2 := q1 _ (H.sub _ (.tail _ (.head _)))
   exact ⟨Nat.ne_of_lt g2, Nat.ne_of_lt (Nat.lt_trans g2 q2.1), Nat.ne_of_lt g1, Nat.ne_of_lt (Nat.lt_trans g1 q2.1)⟩
 clear q1 q2 q3 H
 obtain ⟨m1, e1, e2, F7⟩ : ∃ m1, m1 "words" = some (.ref ws) ∧ m1 "hung" = some (.ref hs) ∧ Fr _ _ _ m1 := ⟨_, by walk_at "zlook", by walk_at "zlook", F7⟩
 /- codes -/
 refine wpC_execs_cons (wpC_of (blind ?_))
 intro Q2 hQ2
 walk_at "zs"
 refine zset F7 (by exact rfl) (by decide) (by exact rfl) (by decide) ?_
 walk_at "zs"
 rename IsRange _ _ _ _ _ _ _ _ => hR
 rename Fr _ _ _ _ => F8
 rename News _ _ _ _ => N8
 refine zrange (n := 5) rfl F8 N8 hR (by decide) (by decide) ?_
 intro I o O h9 SR hO hoff hown F9 N9
 refine zset1 (SR _ _) (fun i v x t u h => h.2) (fun i => ((codeAt oc i : Nat) : Int)) ?_ (Nat.le_refl _) (by exact rfl) (by decide) F9 N9 hO hoff ?_ ?_
 · intro i hi
   have := codeAt_lt h3 i
   omega
 · intro C D i v t₀ t₁ m₂ oC so o h₁ tk₁ hi hv hC F10 N10
   obtain ⟨⟨tv, rfl⟩, _⟩ := hv
   walk_at "zs"
   with_reducible refine item_P (i := 3 * i) (by omega) (by omega) (by omega) ?_
   intro t9 k9 _
   walk_at "zs"
   with_reducible refine item_P (i := 3 * i + 1) (by omega) (by omega) (by omega) ?_
   intro t10 k10 _
   walk_at "zs"
   with_reducible refine item_P (i := 3 * i + 2) (by omega) (by omega) (by omega) ?_
   intro t11 k11 _
   walk_at "zs"
 intro D so es ep t hD HS hmem h11 tk11 F11 N11
 clear hR SR hO hoff hown
 walk_at "zs"
 refine set_sorted rfl F11 N11 (.head _) HS ?_
 intro B0 h12 tk12 cv0 ns c0 F12 N12 hB hcI hp hP
 refine x1a4 (codesFrom hp HS.nodup hmem HS.few) ?_; rintro codes rfl hcn hcm hc5
 have H4 := (H3.cons (a := (D, so))).push (a := B0) (o := listOf cv0.toArray c0) hB
 refine storeX_H F12 N12 H4 inj rfl ?_
 intro h13 Z2 F13 N13 H5
 clear HS hmem hp hP hB hD F11 N11 F12 N12 H4 H3
 walk_at "zs"
 rename Fr _ _ _ _ => F14
 rename News _ _ _ _ => N14
 /- points -/
 refine wpC_execs_cons (wpC_of (blind ?_))
 intro Q3 hQ3
 refine zcompAF F14 (by exact rfl) (by exact rfl) (by exact rfl) (by decide) (by exact rfl) (by decide) (by exact rfl) (by exact rfl) ?_
 walk_at "zs"
 refine zlist rfl F14 N14 (H5.sub _ (.head _)) ?_
 intro I o O h15 S4 hO hoff hown F15 N15
 refine zcl1L (names := ["code"]) rfl (S4 _ (zgoN I)) (fun i vals x => ∃ k u, codes[i]? = some k ∧ vals = [.int (Int.ofNat k) u] ∧ x = []) (fun i ys _ nw => PtsJ Z2 codes i ys nw)
   ?_ ?_ (by exact rfl) (by decide) F15 N15 hO hoff ⟨fun _ h => h, rfl, fun _ _ h => nomatch h⟩ ?_ ?_
 · rintro i ys _ nw HJ
   refine ⟨fun p hp => by rw [List.mem_singleton.mp hp]; exact HJ.up _ (H5.sub _ (.head _)), ?_⟩
   have := HJ.tk.1
   rw [List.length_map, List.length_take] at this
   omega
 · rintro i v x t u ys _ nw hi HJ ⟨h1, rfl⟩
   have h1' : cv0[i]? = some v := by simpa using h1
   refine x2a2 (IntsAre.at hcI i v h1') ?_; rintro n t rfl h2
   obtain ⟨k, hk, rfl⟩ := map_at h2
   exact ⟨_, ⟨k, t, hk, rfl, rfl⟩, .name⟩
 · intro J' σ hJJ C D i vals x o m₃ oC ys nw h16 tk16 hi HJ hV ho hlv hxx hnn hC F16 N16
   ((refine opq ?_); intro G' hG')
   refine x2a3 hV ?_; clear hV; rintro k u hk rfl rfl
   ((with_reducible rename Opq _ _ => hG'); (refine hG' ?_); clear hG'; (try dsimp only))
   refine compTests_nil ?_
   walk_at "zs"
   rename Fr _ _ _ _ => F17
   rename News _ _ _ _ => N17
   rename (C < _ ∧ _) => lT
   dsimp only
   exact CNextM.one hC F17 N17 lT hlv hnn (hJJ _ _ _ _ (HJ.next hk))
 intro pl pv nw hD HJ h17 tk17 F17 N17
 obtain ⟨_, HJ⟩ := HJ
 clear S4 hO hoff hown F15 N15
 walk_at "zs"
 obtain ⟨Z3, H6, N18, mB, mP, mH, mW, m123, m104, hTP⟩ : ∃ Z3, Hold _ Z3 (Z3.filter notCell) _ ∧ News _ _ _ Z3 ∧ (B0, listOf cv0.toArray c0) ∈ Z3 ∧ (pl, listOf pv.toArray pv.length) ∈ Z3 ∧ (hs, listOf #[] 0) ∈ Z3 ∧ (ws, listOf #[] 0) ∈ Z3 ∧ (123, tabObj #[]) ∈ Z3 ∧ (104, tabObj #[]) ∈ Z3 ∧ TakenIs Z3 (codes.map digOf) pv :=
   ⟨_, Hold.all N17 (H5.more fun q hq => .tail _ (HJ.up q hq)), N17, .tail _ (HJ.up _ (H5.sub _ (.head _))), .head _, .tail _ (HJ.up _ (H5.sub _ (.tail _ (.head _)))), .tail _ (HJ.up _ (H5.sub _ (.tail _ (.tail _ (.head _))))), .tail _ (HJ.up _ (H5.sub _ (.tail _ (.tail _ (.tail _ (.head _)))))), .tail _ (HJ.up _ (H5.sub _ (.tail _ (.tail _ (.tail _ (.tail _ (.head _))))))), by
     have hl := IntsAre.length hcI
     have ht := HJ.tk
     rw [List.take_of_length_le (by rw [List.size_toArray, hl, List.length_map]; exact Nat.le_refl _)] at ht
     exact ht.more fun q hq => .tail _ hq⟩
 obtain ⟨m2, e1, e2, e3, F18⟩ : ∃ m2, m2 "words" = some (.ref ws) ∧ m2 "hung" = some (.ref hs) ∧ m2 "points" = some (.ref pl) ∧ Fr _ _ _ m2 := ⟨_, by walk_at "zlook", by walk_at "zlook", by walk_at "zlook", F17⟩
 have plF : ∀ a ∈ [104, ws, hs, 123], pl ≠ a := fun a ha => by
   have g := fun o (h : (a, o) ∈ Z2) => Ne.symm (hD _ (HJ.up _ h))
   simp only [List.mem_cons, List.not_mem_nil, or_false] at ha
   rcases ha with rfl | rfl | rfl | rfl
   · exact g _ (H5.sub _ (.tail _ (.tail _ (.tail _ (.tail _ (.head _))))))
   · exact g _ (H5.sub _ (.tail _ (.tail _ (.head _))))
   · exact g _ (H5.sub _ (.tail _ (.head _)))
   · exact g _ (H5.sub _ (.tail _ (.tail _ (.tail _ (.head _)))))
 clear N17 HJ hD H5 F17
 /- the others -/
 refine wpC_execs_cons (wpC_of (blind ?_))
 intro Q4 hQ4
 walk_at "zs"
 refine zcompF F18 (by exact rfl) (by decide) (by exact rfl) (by decide) ?_
 walk_at "zs"
 rename IsRange _ _ _ _ _ _ _ _ => hR
 rename Fr _ _ _ _ => F19
 rename News _ _ _ _ => N19
 refine zrange (n := 27) rfl F19 N19 hR (by decide) (by decide) ?_
 intro I o O h20 SR hO hoff hown F20 N20
 refine zcl_out (names := ["code"]) (fun C x => rfl) rfl (SR _ _) (fun i vals x => ∃ u, vals = [.int (0 + i * 1) u] ∧ x = []) (fun i ys _ nw => nw = Z3 ∧ IntsAre ys ((othN codes i).map Int.ofNat))
   (fun _ _ _ _ _ _ h => nomatch h) ?_ (by exact rfl) (by decide) F20 N20 hO hoff ⟨rfl, .nil⟩ ?_ ?_
 · rintro i v x t u ys _ nw hi _ ⟨⟨tv, rfl⟩, rfl⟩
   exact ⟨_, ⟨tv, rfl, rfl⟩, .name⟩
 · intro J' σ hJJ C D i vals x o m₃ oC ys nw h21 tk21 hCD hCw hDw hi HJ hV ho hlv hxx hnn hC F21 N21
   ((refine opq ?_); intro G' hG')
   obtain ⟨u, rfl, rfl⟩ := hV
   obtain ⟨rfl, hys⟩ := HJ
   ((with_reducible rename Opq _ _ => hG'); (refine hG' ?_); clear hG'; (try dsimp only))
   have inZ : ∀ q ∈ nw, q ∈ (C, oC) :: (D, listOf ys.toArray ys.length) :: ([] ++ (o ++ nw)) := fun q hq => .tail _ (.tail _ (List.mem_append_right [] (List.mem_append_right o hq)))
   walk_at "zs"
   refine notin_list_ints (News.isList N21 (inZ _ mB)) hcI ?_
   rw [any_codes]
   by_cases c : i ∈ codes
   · rw [decide_eq_true c]
     walk_at "zs"
     exact CNextM.intro hC F21 N21 (.head _) (.tail _ (.head _)) (fun p hp => .tail _ (.tail _ (List.mem_append_right [] (List.mem_append_left _ hp)))) inZ hnn (hJJ _ _ _ _ ⟨rfl, by rw [othN_in c]; exact hys⟩)
   · rw [decide_eq_false c]
     walk_at "zs"
     rename Fr _ _ _ _ => F22
     rename News _ _ _ _ => N22
     rename (C < _ ∧ _) => lT
     obtain ⟨W, wT, wZ, wo, wn⟩ := topW (oC := oC) (oD := listOf ys.toArray ys.length) lT hCw hDw ho hnn
     refine ztuple rfl F22 N22 (.head _) ?_
     intro I2 o2 O2 h23 SR2 hO2 hoff2 hown2 F23 N23
     refine zcl_in (names := ["digit"]) (W := W) rfl rfl rfl (SR2 _ _) (fun d vals x => ∃ z u, vals = [.int (Int.ofNat z) u] ∧ x = [] ∧ (d3 i)[d]? = some z) (fun d ys2 _ nw2 => nw2 = W ∧ IntsAre ys2 ((othN codes i ++ (d3 i).take d).map Int.ofNat))
       ?_ ?_ (by exact rfl) (by decide) hCD hC F23 N23 hO2 hoff2 (.tail _ (.head _)) (.tail _ (.tail _ (.head _))) wZ ⟨rfl, by rw [List.take_zero, List.append_nil]; exact hys⟩ ?_ ?_
     · rintro d ys2 _ nw2 ⟨rfl, h2⟩
       refine ⟨fun p hp => by rw [List.mem_singleton.mp hp]; exact wT, ?_⟩
       have := othN_len codes i
       have : (d3 i).length = 3 := rfl
       rw [IntsAre.length h2, List.length_map, List.length_append, List.length_take]
       omega
     · rintro d v x t u ys2 _ nw2 hd _ ⟨h1, rfl⟩
       refine x2a2 (dig_at h1) ?_; rintro z u rfl hz
       exact ⟨_, ⟨z, u, rfl, rfl, hz⟩, .name⟩
     · intro J2 σ2 hJ2 d vals x o3 m4 oC2 ys2 nw2 h24 tk24 hd HJ2 hV2 ho2 hlv2 hxx2 hnn2 hC2 F24 N24
       ((refine opq ?_); intro G' hG')
       refine x2a3 hV2 ?_; clear hV2; rintro z u rfl rfl hz
       obtain ⟨rfl, hys2⟩ := HJ2
       ((with_reducible rename Opq _ _ => hG'); (refine hG' ?_); clear hG'; (try dsimp only))
       refine compTests_nil ?_
       walk_at "zs"
       exact CNextM.intro hC2 F24 N24 (.head _) (.tail _ (.head _)) (fun p hp => .tail _ (.tail _ (List.mem_append_right [] (List.mem_append_left _ hp)))) (fun p hp => .tail _ (.tail _ (List.mem_append_right [] (List.mem_append_right _ hp)))) hnn2 (hJ2 _ _ _ _ ⟨rfl, oth_snoc hys2 hz⟩)
     · intro h25 tk25 oC2 m4 ys2 nw2 hC2 F25 N25 hnn2 HJ2
       obtain ⟨rfl, hys2⟩ := HJ2
       exact ⟨⟨_, rfl⟩, _, CNextM.intro hC2 F25 N25 (.head _) (.tail _ (.head _)) (fun p hp => .tail _ (.tail _ (wo p hp))) (fun p hp => .tail _ (.tail _ (wn p hp))) hnn (hJJ _ _ _ _ ⟨rfl, by rw [othN_out c]; exact hys2⟩)⟩
 intro D ov nw hD HJ h22 tk22 F22 N22
 obtain ⟨_, rfl, hov⟩ := HJ
 clear hR SR hO hoff hown F20 N20 F19 N19
 walk_at "zs"
 refine bytes_K F22 N22 (News.isList N22 (.head _)) hov oth_small (by
   have := othN_len codes 27
   rw [IntsAre.length hov, List.length_map, sizeLine_eq]
   omega) rfl ?_
 intro h23 t23 tk23 F23 N23 _
 have hob := oth_bytes codes
 generalize (((othN codes 27).map Int.ofNat).map fun n => n.toNat.toUInt8).toArray = ob at hob
 walk_at "zs"
 rename Fr _ _ _ _ => F24
 rename News _ _ _ _ => N24
 obtain ⟨m3, e1, e2, e3, e4, F24⟩ : ∃ m3, m3 "words" = some (.ref ws) ∧ m3 "hung" = some (.ref hs) ∧ m3 "points" = some (.ref pl) ∧ m3 "others" = some (.bytes ob t23) ∧ Fr _ _ _ m3 := ⟨_, by walk_at "zlook", by walk_at "zlook", by walk_at "zlook", by walk_at "zlook", F24⟩
 have N25 : News _ _ _ nw := fun p hp => N24 p (.tail _ hp)
 clear N24 hov hD
 /- turned -/
 refine wpC_execs_cons (blindC ?_)
 intro Q5 hQ5
 refine wpC_Assign_Name ?_
 refine wpC_Call_Name rfl (wpAny_noRaise ?_)
 walk_at "zs"
 refine' wpC_callWith_K (K := Mine.hd.heap_1 w.params) ?ho (wpC_evalArgs (wpC_spliced_cons (wpC_of ?_))) rfl (Nat.le_of_ble_eq_true rfl)
 case ho => k_is
 show wpAny _ _ (eval (Expr.Name _ _) _) _ _ _
 walk_at "zs"
 refine wpC_spliced_cons (wpC_of ?_)
 simp only [Bool.false_eq_true, if_false]
 walk_at "zs"
 refine wpC_pure ?_
 dsimp only [List.nil_append]
 rename (Mine.hd.heap_1 _).In _ => XG
 refine ⟨XG.keeps F24.keep, ?_⟩
 refine swap_ok (n := 5) (by exact .mk (Nat.le_of_ble_eq_true rfl) (Nat.le_of_ble_eq_true rfl) rfl rfl rfl (by assumption) (by assumption) (by assumption) (by assumption) (by assumption)) rfl F24 N25 hoc (by decide) ?_
 intro h25 tk25 t25 tc F25 N26 htc hpt
 refine wpC_of ?_
 walk_at "zs"
 rename Fr _ _ _ _ => F26
 rename News _ _ _ _ => N27
 obtain ⟨m4, e1, e2, e3, e4, e5, F26⟩ : ∃ m4, m4 "words" = some (.ref ws) ∧ m4 "hung" = some (.ref hs) ∧ m4 "points" = some (.ref pl) ∧ m4 "others" = some (.bytes ob t23) ∧ m4 "turned" = some (.bytes tc t25) ∧ Fr _ _ _ m4 := ⟨_, by walk_at "zlook", by walk_at "zlook", by walk_at "zlook", by walk_at "zlook", by walk_at "zlook", F26⟩
 (try clear hQ2); (try clear hQ3); (try clear hQ4); (try clear hQ1)
 /- taken -/
 refine wpC_execs_cons (wpC_of (blind ?_))
 intro Q6 hQ6
 walk_at "zs"
 rename Fr _ _ _ _ => F27
 refine bush_ok (np := 5) (Ic := [123]) (wv := []) (wn := 0) (st0 := []) (rest := nw.filter fun q => decide (q.1 ≠ 104)) (Nat.le_of_ble_eq_true rfl) (Nat.le_of_ble_eq_true rfl) rfl rfl rfl (by assumption) (by assumption) (by assumption) (by assumption) (by assumption) (by assumption) (by assumption) rfl F27 (news_at N27 m104) (fun q hq => of_decide_eq_true (List.mem_filter.mp hq).2) (.inl rfl) (fun _ h => nomatch h) (fun _ h => nomatch h)
   (by omega) (by decide) (List.mem_filter.mpr ⟨mW, decide_eq_true (Ne.symm f104.1)⟩) (Nat.zero_le _) (List.mem_filter.mpr ⟨mH, decide_eq_true (Ne.symm f104.2.1)⟩) wh (fun a ha => by
     rw [List.mem_singleton.mp ha]
     exact ⟨⟨_, List.mem_filter.mpr ⟨List.mem_filter.mpr ⟨m123, decide_eq_true (by decide)⟩, decide_eq_true ⟨f104.2.2.1, f104.2.2.2⟩⟩⟩, fun _ h => nomatch h⟩) ?_
 intro h28 tk28 tb otb t5 t6 tkk st Ns rt led1 F28 N28 BI1
 walk_at "zs"
 rename Fr _ _ _ _ => F29
 refine x1a3 (bush_root BI1) ?_; rintro r₀ hr0 hrt hrp
 have cnt := BI1.count
 have gl := growN_len tc 5
 obtain ⟨ob123, mb123⟩ := (BI1.iap 123 (.head _)).1
 refine taken_ok (rest := led1.filter fun q => decide (q.1 ≠ 123)) (st0 := []) (ps := #[]) (by exact .mk (Nat.le_of_ble_eq_true rfl) (Nat.le_of_ble_eq_true rfl) rfl rfl rfl (by assumption) (by assumption) (by assumption) (by assumption) (by assumption)) rfl F29 (news_at N28 (BI1.keep _ (List.mem_filter.mpr ⟨List.mem_filter.mpr ⟨m123, decide_eq_true (by decide)⟩, decide_eq_true ⟨f104.2.2.1, f104.2.2.2⟩⟩))) (fun q hq => of_decide_eq_true (List.mem_filter.mp hq).2) (.inl rfl) (fun _ h => nomatch h)
   (bush_rest BI1 (.head _)) BI1.tell (by omega) hr0 hrt hrp ?_
 intro h30 tk30 tl takenV tn led2 d1 d2 F30 N30 hrest h123 hd1 hd2 mtl hTk
 rw [take_pile BI1.tell BI1.bush.nodup (small_turn h3 hpt)] at hTk
 obtain ⟨upZ, k1, k2, TS⟩ := tkst f104 BI1 hrest h123 hd1 hd2 mtl hTk
 clear hrest h123 hd1 hd2 mtl hTk BI1 cnt gl N28 F29
 walk_at "zs"
 rename Fr _ _ _ _ => F31
 rename News _ _ _ _ => N31
 have hF4 : ∀ a ∈ [104, ws, hs, 123], ∃ o : Obj, (a, o) ∈ nw ∧ notCell (a, o) = true ∧ o.cls ≠ .type "tuple" := fun a ha => by
   simp only [List.mem_cons, List.not_mem_nil, or_false] at ha
   rcases ha with rfl | rfl | rfl | rfl
   · exact ⟨_, m104, rfl, fun h => nomatch h⟩
   · exact ⟨_, mW, rfl, by decide⟩
   · exact ⟨_, mH, rfl, by decide⟩
   · exact ⟨_, m123, rfl, fun h => nomatch h⟩
 have H7 := H6.pass N31 upZ fun a ha => let ⟨o, g1, g2, _⟩ := hF4 a ha; ⟨o, g1, g2⟩
 have hTP2 := hTP.pass N27 upZ fun a ha => let ⟨o, g1, _, g2⟩ := hF4 a ha; ⟨o, g1, g2⟩
 have mP2 := upZ _ mP fun hm => plF _ hm rfl
 clear H6 hTP mP hF4 mB mH mW m123 m104 N27
 refine storeX_H F31 N31 H7 inj rfl ?_
 intro h32 Z4 F32 N32 H8
 walk_at "zs"
 have up4 : ∀ q ∈ led2, notCell q = true → q ∈ Z4 := fun q hq hc => H8.sub q (List.mem_filter.mpr ⟨hq, hc⟩)
 have S4 := TS.move up4
 have hTP4 := hTP2.nc.more fun q hq => H8.sub q hq
 have mP4 := up4 _ mP2 rfl
 clear TS hTP2 mP2 up4 upZ H7 N31 F31
 try (clear hQ6)
 rename Fr _ _ _ _ => F33
 /- just -/
 refine wpC_execs_cons (wpC_of (blind ?_))
 intro Q7 hQ7
 walk_at "zs"
 refine is_bytes (by k_in) fun _ => ?_
 walk_at "zs"
 rename Fr _ _ _ _ => F34
 rename News _ _ _ _ => N34
 refine hung_ok (by exact .mk (Nat.le_of_ble_eq_true rfl) (Nat.le_of_ble_eq_true rfl) rfl rfl rfl (by assumption) (by assumption) (by assumption) (by assumption) (by assumption)) rfl F34 N34 (c := tc) hoc hpt ?_
 intro h35 tk35 ds dv kd Z5 F35 N35 up5 mds hDue
 have S5 := S4.move fun q hq _ => up5 q hq
 have hTP5 := hTP4.more up5
 have mP5 := up5 _ mP4
 have H9 := (H8.more up5).all N35
 clear S4 hTP4 mP4 up5 F34 N34 H8
 walk_at "zs"
 refine x4a5 (S5.hung) ?_; rintro hv nh st5 Es u1 u2 u3 u4 u5
 refine hung_same N35 u1 mds u2 (fun q hq => hq) u3 u5 hDue u4 (Nat.le_of_ble_eq_true rfl) ?_
 walk_at "zs"
 clear hDue mds u1 u2 u3 u4 u5
 refine x2a2 (S5.taken) ?_; rintro tv5 n5 mT5 hT5
 have JI := just_in h3 hpt hcm hcn (by decide) (by omega)
 refine just_ok (by exact .mk (Nat.le_of_ble_eq_true rfl) (Nat.le_of_ble_eq_true rfl) rfl rfl rfl (by assumption) (by assumption) (by assumption) (by assumption) (by assumption)) rfl F35 N35 mT5 hT5 mP5 hTP5 JI.few JI.grid JI.first JI.nodup JI.len JI.small JI.just ?_
 intro h36 tk36 F36 N36
 walk_at "zs"
 clear JI mT5 hT5 hTP5 mP5 N35 F35
 try (clear hQ7)
 rename Fr _ _ _ _ => F37
 rename News _ _ _ _ => N37
 /- the second bush -/
 refine wpC_execs_cons (blindC ?_)
 intro Q8 hQ8
 refine wpC_If (wpC_isTrue_Compare1 ?_)
 refine wpC_Call_Name rfl (wpAny_noRaise ?_)
 walk_at "zs"
 refine' wpC_callWith_K (K := Mine.hd.heap_1 w.params) ?ho (wpC_evalArgs (wpC_spliced_cons ?_)) rfl (Nat.le_of_ble_eq_true rfl)
 case ho => k_is
 show wpC _ _ (eval (Expr.Call _ _ _ _) _) _ _ _
 refine wpC_Call_Name rfl (wpAny_noRaise ?_)
 walk_at "zs"
 refine' wpC_callWith_K (K := Mine.hd.heap_1 w.params) ?ho (wpC_evalArgs (wpC_spliced_cons ?_)) rfl (Nat.le_of_ble_eq_true rfl)
 case ho => k_is
 show wpC _ _ (eval (Expr.Call _ _ _ _) _) _ _ _
 refine wpC_Call_Name rfl (wpAny_noRaise ?_)
 walk_at "zs"
 refine' wpC_callWith_K (K := Mine.hd.heap_1 w.params) ?ho (wpC_evalArgs (wpC_spliced_cons (wpC_of ?_))) rfl (Nat.le_of_ble_eq_true rfl)
 case ho => k_is
 show wpAny _ _ (eval (Expr.Name _ _) _) _ _ _
 walk_at "zs"
 refine wpC_spliced_cons (wpC_of ?_)
 simp only [Bool.false_eq_true, if_false]
 walk_at "zs"
 refine wpC_pure ?_
 dsimp only [List.nil_append]
 refine ⟨XG.keeps F37.keep, ?_⟩
 refine x7a1 (S5.sec N37 (just_in h3 hpt hcm hcn (by decide) (by omega)).few.1) ?_; rintro us tv6 n6 m6 oc6 oe6 og6 S6
 have hob : _ = (missN codes).flatMap d3 := hob
 have ml := missN_len hc5
 have osz := oth_size hob
 refine swap_ok (n := (missN codes).length) (by exact .mk (Nat.le_of_ble_eq_true rfl) (Nat.le_of_ble_eq_true rfl) rfl rfl rfl (by assumption) (by assumption) (by assumption) (by assumption) (by assumption)) rfl F37 N37 osz ml ?_
 intro h38 tk38 t38 sc F38 N38 hsc hpt2
 refine wpC_spliced_cons (wpC_of ?_)
 simp only [Bool.false_eq_true, if_false]
 walk_at "zs"
 refine wpC_spliced_cons (wpC_of ?_)
 simp only [Bool.false_eq_true, if_false]
 walk_at "zs"
 refine wpC_pure ?_
 dsimp only [List.nil_append]
 rename Fr _ _ _ _ => F39
 rename News _ _ _ _ => N39
 rename (∀ p ∈ Z5, @LT.lt Nat _ p.1 _) => l39
 refine ⟨XG.keeps F39.keep, ?_⟩
 rename Addr => lh
 have c6 := S6.ne k2 (.head _)
 have w104 := Ne.symm f104.1
 refine wpC_of ?_
 refine bush_ok (np := (missN codes).length) (Ic := [123]) (wv := us) (wn := n6) (ps := tab2 k1 k2) (st0 := [(k2, oc6)]) (rest := ((lh, listOf #[] 0) :: Z5).filter fun q => decide (q.1 ≠ 104)) (Nat.le_of_ble_eq_true rfl) (Nat.le_of_ble_eq_true rfl) rfl rfl rfl (by assumption) (by assumption) (by assumption) (by assumption) (by assumption) (by assumption) (by assumption) rfl F39 (news_at N39 (.tail _ S5.t104)) (fun q hq => of_decide_eq_true (List.mem_filter.mp hq).2) (.inr ⟨k1, k2, rfl, S6.k2⟩)
   (fun q hq => by rw [List.mem_singleton.mp hq]; exact List.mem_filter.mpr ⟨.tail _ S6.mc, decide_eq_true c6.1⟩) (fun q hq => by rw [List.mem_singleton.mp hq]; exact ⟨c6.2.1, Nat.ne_of_lt (l39 _ S6.mc)⟩)
   (hsc.trans osz) ml (List.mem_filter.mpr ⟨.tail _ S6.mw, decide_eq_true w104⟩) (Nat.le_trans S6.lw (by decide)) (List.mem_filter.mpr ⟨.head _, decide_eq_true (Nat.ne_of_gt (l39 _ S5.t104))⟩) (Nat.ne_of_lt (l39 _ S6.mw)) (fun a ha => by
     rw [List.mem_singleton.mp ha]
     exact ⟨⟨_, List.mem_filter.mpr ⟨List.mem_filter.mpr ⟨.tail _ S5.t123, decide_eq_true (by show @Ne Nat 123 104; decide)⟩, decide_eq_true ⟨f104.2.2.1, Nat.ne_of_lt (l39 _ S5.t123)⟩⟩⟩, fun q hq => by rw [List.mem_singleton.mp hq]; exact c6.2.2⟩) ?_
 intro h40 tk40 tb6 otb6 t56 t66 tkk6 st6 Ns6 rt6 led6 F40 N40 BI6
 refine wpC_pure ?_
 dsimp only [List.nil_append]
 refine ⟨XG.keeps F40.keep, wpC_of ?_⟩
 refine x1a3 (bush_root BI6) ?_; rintro r₁ hr1 hrt1 hrp1
 have cnt := BI6.count
 have gl := growN_len sc (missN codes).length
 have kp : ∀ q ∈ Z5, q.1 ∉ [104, ws, 123] → q ∈ led6.filter fun q => decide (q.1 ≠ 123) := fun q hq hF => by
   simp only [List.mem_cons, List.not_mem_nil, or_false, not_or] at hF
   exact List.mem_filter.mpr ⟨BI6.keep q (List.mem_filter.mpr ⟨List.mem_filter.mpr ⟨.tail _ hq, decide_eq_true hF.1⟩, decide_eq_true ⟨hF.2.1, Nat.ne_of_lt (l39 q hq)⟩⟩), decide_eq_true hF.2.2⟩
 have kF : ∀ a, (@Ne Nat a 104 ∧ a ≠ ws ∧ @Ne Nat a 123) → a ∉ [104, ws, 123] := fun a h => by
   simp only [List.mem_cons, List.not_mem_nil, or_false, not_or]
   exact h
 refine taken_ok (rest := led6.filter fun q => decide (q.1 ≠ 123)) (st0 := [(d1, oe6), (d2, og6)]) (ps := tabT d1 d2) (by exact .mk (Nat.le_of_ble_eq_true rfl) (Nat.le_of_ble_eq_true rfl) rfl rfl rfl (by assumption) (by assumption) (by assumption) (by assumption) (by assumption)) rfl F40 (news_at N40 (BI6.keep _ (List.mem_filter.mpr ⟨List.mem_filter.mpr ⟨.tail _ S5.t123, decide_eq_true (by show @Ne Nat 123 104; decide)⟩, decide_eq_true ⟨f104.2.2.1, Nat.ne_of_lt (l39 _ S5.t123)⟩⟩))) (fun q hq => of_decide_eq_true (List.mem_filter.mp hq).2) (.inr ⟨d1, d2, rfl, S6.e1, S6.e2⟩) (fun q hq => ?_)
   (bush_rest BI6 (.head _)) BI6.tell (by omega) hr1 hrt1 hrp1 ?_
 · rcases List.mem_cons.mp hq with rfl | hq
   · exact kp _ S6.me.1 (kF _ (S6.ne _ (.tail _ (.head _))))
   · rw [List.mem_singleton.mp hq]
     exact kp _ S6.me.2 (kF _ (S6.ne _ (.tail _ (.tail _ (.head _)))))
 intro h42 tk42 tl7 tv7 n7 Z7 d7 e7 F42 N42 hrest g123 _ _ mtl7 hTk7
 rw [take_pile BI6.tell BI6.bush.nodup (small_turn (flat3_small hob fun k hk => ((missN_mem k).mp hk).1) hpt2), take_dual h3 hpt hcm missN_mem hob hpt2] at hTk7
 obtain ⟨up7, us7, n8, mw7, _, hw7⟩ := sec_out f104.2.2.1 l39 BI6 hrest
 refine x2a2 (BI6.tab) ?_; rintro k3 k4 g104 _
 have g104 := hrest _ (List.mem_filter.mpr ⟨g104, decide_eq_true (show @Ne Nat 104 123 by decide)⟩)
 have hF5 : ∀ a ∈ [104, ws, 123], ∃ o : Obj, (a, o) ∈ Z5 ∧ notCell (a, o) = true ∧ o.cls ≠ .type "tuple" := fun a ha => by
   simp only [List.mem_cons, List.not_mem_nil, or_false] at ha
   rcases ha with rfl | rfl | rfl
   · exact ⟨_, S5.t104, rfl, fun h => nomatch h⟩
   · exact ⟨_, S6.mw, rfl, by show (Value.type "list") ≠ Value.type "tuple"; decide⟩
   · exact ⟨_, S5.t123, rfl, fun h => nomatch h⟩
 have H10 := H9.pass N42 up7 fun a ha => let ⟨o, g1, g2, _⟩ := hF5 a ha; ⟨o, g1, g2⟩
 have hT8 := S6.tt.pass (fun p hp => N39 p (.tail _ hp)) up7 fun a ha => let ⟨o, g1, _, g2⟩ := hF5 a ha; ⟨o, g1, g2⟩
 have mT8 := up7 _ S6.mt (kF _ (S6.ne tl (.tail _ (.tail _ (.tail _ (.head _))))))
 have hw8 : ∀ v ∈ us ++ us7, ∃ t, v = .str wordMsg t := fun v hv => (List.mem_append.mp hv).elim (S6.ww v) (hw7 v)
 have lw8 : (us ++ us7).length ≤ 200 := by
   have := S6.lw
   rw [List.length_append]
   omega
 generalize us ++ us7 = wv at mw7 hw8 lw8
 generalize takeJ (cntC (chi tc 5)) 3 = TT at hTk7 hT8
 clear hF5 hw7 kp kF hrest cnt gl BI6 N40 F40 S6 S5 H9 N39 c6 w104 l39 osz ml hsc hpt2 hob
 refine wpC_of (blind ?_)
 intro Q9 hQ9
 refine zcompF F42 (by exact rfl) (by decide) (by exact rfl) (by decide) ?_
 walk_at "zs"
 rename IsRange _ _ _ _ _ _ _ _ => hR
 rename Fr _ _ _ _ => F43
 rename News _ _ _ _ => N43
 refine zrange (n := 3) rfl F43 N43 hR (by decide) (by decide) ?_
 intro I1 oi Oi h44 SR1 hOi hoffi howni F44 N44
 refine zcl_out (names := ["j"]) (fun C x => rfl) rfl (SR1 _ _) (fun i vals x => ∃ u, vals = [.int (0 + i * 1) u] ∧ x = []) (fun i ys _ nw => TkO Z7 [] [] (duT TT i) ys nw)
   (fun _ _ _ _ _ _ h => nomatch h) ?_ (by exact rfl) (by decide) F44 N44 hOi hoffi ⟨Z7, (fun _ _ h => nomatch h), fun _ h => h, rfl, fun _ _ h => nomatch h⟩ ?_ ?_
 · rintro i v x t u ys _ nw hi _ ⟨⟨tv, rfl⟩, rfl⟩
   exact ⟨_, ⟨tv, rfl, rfl⟩, .name⟩
 · intro J' σ hJJ C D i vals x o m₃ oC ys nw h45 tk45 hCD hCw hDw hi HJ hV ho hlv hxx hnn hC F45 N45
   ((refine opq ?_); intro G' hG')
   obtain ⟨u, rfl, rfl⟩ := hV
   ((with_reducible rename Opq _ _ => hG'); (refine hG' ?_); clear hG'; (try dsimp only))
   refine compTests_nil ?_
   walk_at "zs"
   rename IsRange _ _ _ _ _ _ _ _ => hR2
   rename Fr _ _ _ _ => F47
   rename News _ _ _ _ => N47
   refine zrange (n := 3) rfl F47 N47 hR2 (by decide) (by decide) ?_
   intro I2 o2 O2 h48 SR2 hO2 hoff2 hown2 F48 N48
   have hC2w := hoff2 _ (.head _)
   have hD2w := hoff2 _ (.tail _ (.head _))
   refine zcl_mid (names := ["k"]) (W := o ++ nw) rfl rfl (fun x => rfl) rfl (SR2 _ _) (fun k vals x => ∃ u, vals = [.int (0 + k * 1) u] ∧ x = []) (fun k ys2 mk nw2 => mk "j" = some (.int (0 + i * 1) u) ∧ TkO Z7 (o ++ []) ([] ++ C :: D :: [I1]) (duT TT i ++ duJ TT i k) ys2 nw2)
     (fun _ _ _ _ _ _ h => nomatch h) ?_ (by exact rfl) (by decide) hCD hC F48 N48 hO2 hoff2 (.head _) (.tail _ (.head _)) (topW0 hCw hDw ho hnn) ⟨rfl, HJ.push o hnn rfl⟩ ?_ ?_
   · rintro k v x t u ys2 _ nw2 hk _ ⟨⟨tv, rfl⟩, rfl⟩
     exact ⟨_, ⟨tv, rfl, rfl⟩, .name⟩
   · intro J2 σ2 hJ2 k vals x2 o3 m5 oC2 ys2 nw2 h49 tk49 hk HJ2 hV2 ho2 hlv2 hxx2 hnn2 hC2 F49 N49
     ((refine opq ?_); intro G' hG')
     obtain ⟨u2, rfl, rfl⟩ := hV2
     ((with_reducible rename Opq _ _ => hG'); (refine hG' ?_); clear hG'; (try dsimp only))
     refine compTests_nil ?_
     walk_at "zs"
     rename IsRange _ _ _ _ _ _ _ _ => hR3
     rename Fr _ _ _ _ => F50
     rename News _ _ _ _ => N50
     refine zrange (n := 3) rfl F50 N50 hR3 (by decide) (by decide) ?_
     intro I3 o4 O3 h51 SR3 hO3 hoff3 hown3 F51 N51
     refine zcl_in (names := ["l"]) (W := o3 ++ nw2) rfl rfl rfl (SR3 _ _) (fun l vals x => ∃ u, vals = [.int (0 + l * 1) u] ∧ x = []) (fun l ys3 ml nw3 => ml "j" = some (.int (0 + i * 1) u) ∧ ml "k" = some (.int (0 + k * 1) u2) ∧ l ≤ 3 ∧ TkO Z7 (o3 ++ (o ++ [])) (([] ++ C :: D :: [I1]) ++ C :: D :: [I2]) ((duT TT i ++ duJ TT i k) ++ duK TT i k l) ys3 nw3)
       ?_ ?_ (by exact rfl) (by decide) hCD hC2 F51 N51 hO3 hoff3 (.head _) (.tail _ (.head _)) (topW0 hC2w hD2w ho2 hnn2) ⟨bm_ne (by decide) HJ2.1, rfl, Nat.zero_le _, HJ2.2.push o3 hnn2 rfl⟩ ?_ ?_
     · rintro l ys3 _ nw3 ⟨_, _, hl3, H⟩
       refine ⟨(fun _ h => nomatch h), ?_⟩
       have l1 := duT_len TT i
       have l2 := duJ_len TT i k
       have l3 := duK_len TT i k l
       rw [H.len, List.length_append, List.length_append]
       omega
     · rintro l v x t u ys3 _ nw3 hl _ ⟨⟨tv, rfl⟩, rfl⟩
       exact ⟨_, ⟨tv, rfl, rfl⟩, .name⟩
     · intro J3 σ3 hJ3 l vals x3 o5 m6 oC3 ys3 nw3 h52 tk52 hl HJ3 hV3 ho3 hlv3 hxx3 hnn3 hC3 F52 N52
       ((refine opq ?_); intro G' hG')
       obtain ⟨u3, rfl, rfl⟩ := hV3
       obtain ⟨mm, ej, ek, el, hC4⟩ : ∃ mm, mm "j" = some (.int (0 + i * 1) u) ∧ mm "k" = some (.int (0 + k * 1) u2) ∧ mm "l" = some (.int (0 + l * 1) u3) ∧ LCg.NsObj oC3 mm := ⟨_, bm_ne (by decide) HJ3.1, bm_ne (by decide) HJ3.2.1, rfl, hC3⟩
       clear hC3
       have H11 := H10.more HJ3.2.2.2.up
       ((with_reducible rename Opq _ _ => hG'); (refine hG' ?_); clear hG'; (try dsimp only))
       walk_at "zs"
       rename Fr _ _ _ _ => F53
       rename News _ _ _ _ => N53
       refine notIn_new N53 HJ3.2.2.2.up mT8 hT8 (by exact Nat.le_of_ble_eq_true rfl) (fun hin => ?_) fun hin => ?_
       · rw [two_less hi hk hl] at hin
         walk_at "zs"
         exact CNextM.intro hC4 F53 N53 (.tail _ (.head _)) (.tail _ (.tail _ (.head _))) (fun p hp => .tail _ (.tail _ (.tail _ (List.mem_append_right [] (List.mem_append_left _ hp))))) (fun p hp => .tail _ (.tail _ (.tail _ (List.mem_append_right [] (List.mem_append_right _ hp))))) hnn3 (hJ3 _ _ _ _ ⟨ej, ek, hl, by rw [duK_in (mem_toI.mp hin)]; exact HJ3.2.2.2⟩)
       · rw [two_less hi hk hl] at hin
         walk_at "zs"
         rename Fr _ _ _ _ => F54
         rename News _ _ _ _ => N54
         rename (_ < _ ∧ C < _ ∧ _) => lT
         refine CNextM.tk (t := (i, k, l)) hC4 F54 N54 lT hlv3 hnn3 HJ3.2.2.2 (fun a ha => ?_) (zi _) (zi _) (zi _) ?_ (fun nw4 H => hJ3 _ _ _ _ ⟨ej, ek, hl, H⟩)
         · simp only [List.nil_append, List.cons_append, List.mem_cons, List.not_mem_nil, or_false] at ha
           rcases ha with rfl | rfl | rfl | rfl | rfl | rfl
           · exact .inl rfl
           · exact .inr (.inl rfl)
           · obtain ⟨ob, h⟩ := hlv _ (.head _)
             exact .inr (.inr ⟨ob, List.mem_append_right _ (List.mem_append_left _ h)⟩)
           · exact .inl rfl
           · exact .inr (.inl rfl)
           · obtain ⟨ob, h⟩ := hlv2 _ (.head _)
             exact .inr (.inr ⟨ob, List.mem_append_left _ h⟩)
         · rw [duK_out (fun h => hin (mem_toI.mpr h)), List.append_assoc]
     · intro h55 tk55 oC3 m6 ys3 nw3 hC3 F55 N55 hnn3 HJ3
       refine x1a3 (HJ3.2.2.2.pop fun p hp => hnn2 p (HJ2.2.own p hp)) ?_; rintro nw4 u4 off4 H4
       exact ⟨⟨_, rfl⟩, _, CNextM.intro hC3 F55 N55 (.head _) (.tail _ (.head _)) (fun p hp => .tail _ (.tail _ (HJ3.2.2.2.own p (List.mem_append_left _ hp)))) (fun p hp => .tail _ (.tail _ (u4 p hp))) off4 (hJ2 _ _ _ _ ⟨HJ3.1, by rw [duJ_succ, ← List.append_assoc]; exact H4⟩)⟩
   · intro h56 tk56 oC2 m5 ys2 nw2 hC2 F56 N56 hnn2 HJ2
     refine x1a3 (HJ2.2.pop (os := []) fun _ h => nomatch h) ?_; rintro nw4 u4 off4 H4
     exact ⟨⟨_, rfl⟩, _, CNextM.intro hC2 F56 N56 (.head _) (.tail _ (.head _)) (fun p hp => .tail _ (.tail _ (HJ2.2.own p (List.mem_append_left _ hp)))) (fun p hp => .tail _ (.tail _ (u4 p hp))) off4 (hJJ _ _ _ _ (by rw [duT_succ]; exact H4))⟩
 intro D du nw hD HJ h46 tk46 F46 N46
 obtain ⟨_, nw7, _, up8, hdu⟩ := HJ
 clear hR SR1 hOi hoffi howni F44 N44 F43 N43
 walk_at "zs"
 refine wpC_of ?_
 refine taken_ne (T := duT TT 3) N46 (.tail _ (up8 _ mtl7)) (.head _) (hTk7.more fun q hq => .tail _ (up8 q hq)) (hdu.more fun q hq => .tail _ hq) (Nat.le_of_ble_eq_true rfl) ?_
 refine wpC_of (wpAny_truthy_bool ?_)
 rw [if_neg Bool.false_ne_true]
 refine wpC_of ?_
 walk_at "zs"
 rename Fr _ _ _ _ => F57
 rename News _ _ _ _ => N57
 obtain ⟨ZZ, N58, mw8, g8, g9⟩ : ∃ ZZ, News _ _ _ ZZ ∧ (ws, listOf wv.toArray n8) ∈ ZZ ∧ (123, tabObj (tabT d7 e7)) ∈ ZZ ∧ (104, tabObj (tab2 k3 k4)) ∈ ZZ := ⟨_, N57, .tail _ (up8 _ mw7), .tail _ (up8 _ g123), .tail _ (up8 _ g104)⟩
 clear N57 hdu up8 mw7 g123 g104 hD mtl7 hTk7 hT8 mT8 H10
 /- no other word -/
 refine wpC_execs_cons (wpC_of (blind ?_))
 intro Q10 hQ10
 walk_at "zs"
 refine zcompF F57 (by exact rfl) (by decide) (by exact rfl) (by decide) ?_
 walk_at "zs"
 refine zlist rfl F57 N58 mw8 ?_
 intro I o O h60 SL hO hoff hown F60 N60
 refine zcl1O (names := ["word"]) rfl (SL _ (zgoN I)) (fun i vals x => ∃ t, vals = [.str wordMsg t] ∧ x = []) (fun i ys nw => ZZ = nw ∧ ys = []) ?_ ?_ (by exact rfl) (by decide) F60 N60 hO hoff ⟨rfl, rfl⟩ ?_ ?_
 · rintro i ys nw ⟨rfl, rfl⟩
   exact ⟨fun p hp => by rw [List.mem_singleton.mp hp]; exact mw8, Nat.zero_le _⟩
 · rintro i v x t u ys nw hi _ ⟨h1, rfl⟩
   have h1' : wv[i]? = some v := by simpa using h1
   obtain ⟨t, rfl⟩ := hw8 _ (List.mem_of_getElem? h1')
   exact ⟨_, ⟨t, rfl, rfl⟩, .name⟩
 · intro J' σ hJJ C D i vals x o m₃ oC ys nw h61 tk61 hi HJ hV ho hxx hnn hC F61 N61
   ((refine opq ?_); intro G' hG')
   obtain ⟨t, rfl, rfl⟩ := hV
   obtain ⟨rfl, rfl⟩ := HJ
   ((with_reducible rename Opq _ _ => hG'); (refine hG' ?_); clear hG'; (try dsimp only))
   walk_at "zs"
   exact CNext.intro hC F61 N61 (.head _) (.tail _ (.head _)) (fun p hp => .tail _ (.tail _ (List.mem_append_right [] (List.mem_append_left _ hp)))) (fun p hp => .tail _ (.tail _ (List.mem_append_right [] (List.mem_append_right o hp)))) hnn (hJJ _ _ _ ⟨rfl, rfl⟩)
 · intro D ys nw hD HJ h62 tk62 F62 N62
   obtain ⟨rfl, rfl⟩ := HJ
   walk_at "zs"
   rename Fr _ _ _ _ => F63
   rename News _ _ _ _ => N63
   refine eq_nil N63 (.tail _ (.head _)) (.head _) (Nat.le_of_ble_eq_true rfl) ?_
   dsimp only [List.isEmpty]
   ((with_reducible rename Bl _ _ => hB'); (refine hB' _ _ ?_); clear hB'; (try dsimp only))
   ((with_reducible rename Bl _ _ => hB'); (refine hB' _ _ ?_); clear hB'; (try dsimp only))
   refine ⟨⟨_, rfl⟩, ?_, GrownAt.of N63 (.tail _ (.tail _ g8)), GrownAt.of N63 (.tail _ (.tail _ g9)), trivial⟩
   exact goodW_bool F63 hg (fun _ => rfl) (law_post _)
end
end
end Mine
theorem PySem.Challenge.cw_wy0029_01_holds : PySem.Challenge.rw_wy0029_01.Holds :=
  Mine.law_holds
