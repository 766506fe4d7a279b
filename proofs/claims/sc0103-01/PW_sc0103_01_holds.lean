import PyProof.Rows.All
import Wide.All
import OpenK.AllK
import Wide.FinOn
import Lean
import PySem.Challenge.RW_sc0103_01
open PySem PySem.W PyProof.Rows
set_option Elab.async false
set_option compiler.extract_closed false
section PartPAw
open PySem PySem.W PyProof.Rows
set_option maxRecDepth 100000
set_option maxHeartbeats 8000000
#guard_msgs (drop error) in
lay_quick_some 0 Mine.nosuchname
namespace Mine
open_top hd for (OpenLaw.row PySem.Challenge.rw_sc0103_01)
theorem law_said : OpenLaw.wellSaid PySem.Challenge.rw_sc0103_01 = true := by decide +kernel
end Mine

end PartPAw
section PartPOm
open PySem PySem.W PyProof.Rows
namespace Mine
theorem o_lt0 {a b L : Nat} (h : a + b < L) : a < L := Nat.lt_of_le_of_lt (Nat.le_add_right _ _) h
theorem o_lt1 {a b c L : Nat} (h : a + b < L) (e : c ≤ b) : a + c < L := Nat.lt_of_le_of_lt (Nat.add_le_add_left e _) h
theorem o_lt2 {a b c d L : Nat} (h : a + b < L) (e : c + d ≤ b) : a + c + d < L := by omega
theorem o_lt3 {a b c d f L : Nat} (h : a + b < L) (e : c + d + f ≤ b) : a + c + d + f < L := by omega
theorem o_lt4 {a b c d f g L : Nat} (h : a + b < L) (e : c + d + f + g ≤ b) : a + c + d + f + g < L := by omega
theorem o_lt {n m k : Nat} (h : n ≤ m) (e : m < k) : n < k := Nat.lt_of_le_of_lt h e
theorem o_ltm {n m k : Nat} (h : n < m) (e : m ≤ k) : n < k := Nat.lt_of_lt_of_le h e
theorem o_lem {n m k : Nat} (h : n < m) (e : m ≤ k) : n ≤ k := Nat.le_of_lt (Nat.lt_of_lt_of_le h e)
theorem o_le {n m k : Nat} (h : n ≤ m) (e : m ≤ k) : n ≤ k := Nat.le_trans h e
theorem o_eqle {a b m k : Nat} (h : a = b) (h' : b ≤ m) (e : m ≤ k) : a ≤ k := h ▸ Nat.le_trans h' e
theorem o_eqlt {a b m k : Nat} (h : a = b) (h' : b ≤ m) (e : m < k) : a < k := h ▸ Nat.lt_of_le_of_lt h' e
theorem o_eq2le {a b c m k : Nat} (h : a = b) (g : b = c) (h' : c ≤ m) (e : m ≤ k) : a ≤ k := by omega
theorem o_eq3le {a b c d m k : Nat} (h : a = b) (g : b = c) (g' : c = d) (h' : d ≤ m) (e : m ≤ k) : a ≤ k := by omega
theorem o_i0 {n : Nat} {k : Int} (e : k ≤ 0) : k ≤ (n : Int) := Int.le_trans e (Int.natCast_nonneg _)
theorem o_im {a n : Nat} {k : Int} (e : 0 < n) (g : (n : Int) ≤ k) : ((a % n : Nat) : Int) < k := Int.lt_of_lt_of_le (Int.ofNat_lt.mpr (Nat.mod_lt _ e)) g
theorem o_nm {a n k : Nat} (e : 0 < n) (g : n ≤ k) : a % n < k := Nat.lt_of_lt_of_le (Nat.mod_lt _ e) g
theorem o_iml {a n : Nat} {k : Int} (e : 0 < n) (g : (n : Int) ≤ k) : ((a % n : Nat) : Int) ≤ k := Int.le_of_lt (o_im e g)
theorem o_ile {n m : Nat} {k : Int} (h : n ≤ m) (e : (m : Int) ≤ k) : (n : Int) ≤ k := Int.le_trans (Int.ofNat_le.mpr h) e
theorem o_ilt {n m : Nat} {k : Int} (h : n ≤ m) (e : (m : Int) < k) : (n : Int) < k := Int.lt_of_le_of_lt (Int.ofNat_le.mpr h) e
theorem o_ilm {n m : Nat} {k : Int} (h : n < m) (e : (m : Int) ≤ k) : (n : Int) < k := Int.lt_of_lt_of_le (Int.ofNat_lt.mpr h) e
theorem o_ieqle {a b m : Nat} {k : Int} (h : a = b) (h' : b ≤ m) (e : (m : Int) ≤ k) : (a : Int) ≤ k := h ▸ o_ile h' e
theorem o_ieqlt {a b m : Nat} {k : Int} (h : a = b) (h' : b ≤ m) (e : (m : Int) < k) : (a : Int) < k := h ▸ o_ilt h' e
theorem o_tk {a b c : Nat} (h : a ≤ b) (g : b ≤ c) : a ≤ c := Nat.le_trans h g
theorem o_tk1 {a b c : Nat} (h : a ≤ b) (g : b + 1 ≤ c) : a ≤ c := by omega
theorem o_tk2 {a b c : Nat} (h : a ≤ b) (g : b < c) : a ≤ c := by omega
theorem o_tk3 {a b c : Nat} (h : a ≤ b) (g : b + 1 + 1 ≤ c) : a ≤ c := by omega
theorem o_eq2lt {a b c m k : Nat} (h : a = b) (g : b = c) (h' : c ≤ m) (e : m < k) : a < k := by omega
theorem o_eqltm {a b m k : Nat} (h : a = b) (h' : b < m) (e : m ≤ k) : a < k := by omega
theorem o_lem2 {a b m k : Nat} (h : a < b) (h' : b ≤ m) (e : m ≤ k) : a ≤ k := by omega
theorem o_ge {n m k : Nat} (h : m ≤ n) (e : k ≤ m) : k ≤ n := Nat.le_trans e h
theorem o_add1 {n m k j : Nat} (h : n ≤ m) (e : m + j ≤ k) : n + j ≤ k := by omega
theorem o_ieq2lt {a b c m : Nat} {k : Int} (h : a = b) (g : b = c) (h' : c ≤ m) (e : (m : Int) < k) : (a : Int) < k := by omega
theorem o_ieq2le {a b c m : Nat} {k : Int} (h : a = b) (g : b = c) (h' : c ≤ m) (e : (m : Int) ≤ k) : (a : Int) ≤ k := by omega
theorem o_0ilt {n m : Nat} {k : Int} (h : n ≤ m) (e : (m : Int) < k) : 0 + (n : Int) < k := by omega
theorem o_0ieqlt {n b m : Nat} {k : Int} (g : n = b) (h : b ≤ m) (e : (m : Int) < k) : 0 + (n : Int) < k := by omega
theorem o_0ilm {n m : Nat} {k : Int} (h : n < m) (e : (m : Int) ≤ k) : 0 + (n : Int) < k := by omega
theorem o_0ilmm {n m j : Nat} {k : Int} (h : n < m) (h' : m ≤ j) (e : (j : Int) ≤ k) : 0 + (n : Int) < k := by omega
theorem o_ilmm {n m j : Nat} {k : Int} (h : n < m) (h' : m ≤ j) (e : (j : Int) ≤ k) : (n : Int) < k := by omega
theorem o_ilem {n m : Nat} {k : Int} (h : n < m) (e : (m : Int) ≤ k) : (n : Int) ≤ k := by omega
theorem o_nge {n m : Nat} {k : Int} (h : n ≤ m) (e : (m : Int) < k) : ¬ ((n : Int) ≥ k) := by omega
theorem o_c0 { a D : Nat} {P : Prop} (h : a < D ∧ P) : a < D := h.1
theorem o_c1 {b0 a D : Nat} {P : Prop} (h : b0 < D ∧ a < D ∧ P) : a < D := h.2.1
theorem o_c2 {b0 b1 a D : Nat} {P : Prop} (h : b0 < D ∧ b1 < D ∧ a < D ∧ P) : a < D := h.2.2.1
theorem o_c3 {b0 b1 b2 a D : Nat} {P : Prop} (h : b0 < D ∧ b1 < D ∧ b2 < D ∧ a < D ∧ P) : a < D := h.2.2.2.1
theorem o_c4 {b0 b1 b2 b3 a D : Nat} {P : Prop} (h : b0 < D ∧ b1 < D ∧ b2 < D ∧ b3 < D ∧ a < D ∧ P) : a < D := h.2.2.2.2.1
theorem o_c5 {b0 b1 b2 b3 b4 a D : Nat} {P : Prop} (h : b0 < D ∧ b1 < D ∧ b2 < D ∧ b3 < D ∧ b4 < D ∧ a < D ∧ P) : a < D := h.2.2.2.2.2.1
theorem o_c6 {b0 b1 b2 b3 b4 b5 a D : Nat} {P : Prop} (h : b0 < D ∧ b1 < D ∧ b2 < D ∧ b3 < D ∧ b4 < D ∧ b5 < D ∧ a < D ∧ P) : a < D := h.2.2.2.2.2.2.1
theorem o_c7 {b0 b1 b2 b3 b4 b5 b6 a D : Nat} {P : Prop} (h : b0 < D ∧ b1 < D ∧ b2 < D ∧ b3 < D ∧ b4 < D ∧ b5 < D ∧ b6 < D ∧ a < D ∧ P) : a < D := h.2.2.2.2.2.2.2.1
theorem o_c8 {b0 b1 b2 b3 b4 b5 b6 b7 a D : Nat} {P : Prop} (h : b0 < D ∧ b1 < D ∧ b2 < D ∧ b3 < D ∧ b4 < D ∧ b5 < D ∧ b6 < D ∧ b7 < D ∧ a < D ∧ P) : a < D := h.2.2.2.2.2.2.2.2.1
theorem o_c9 {b0 b1 b2 b3 b4 b5 b6 b7 b8 a D : Nat} {P : Prop} (h : b0 < D ∧ b1 < D ∧ b2 < D ∧ b3 < D ∧ b4 < D ∧ b5 < D ∧ b6 < D ∧ b7 < D ∧ b8 < D ∧ a < D ∧ P) : a < D := h.2.2.2.2.2.2.2.2.2.1
theorem o_c10 {b0 b1 b2 b3 b4 b5 b6 b7 b8 b9 a D : Nat} {P : Prop} (h : b0 < D ∧ b1 < D ∧ b2 < D ∧ b3 < D ∧ b4 < D ∧ b5 < D ∧ b6 < D ∧ b7 < D ∧ b8 < D ∧ b9 < D ∧ a < D ∧ P) : a < D := h.2.2.2.2.2.2.2.2.2.2.1
theorem o_c11 {b0 b1 b2 b3 b4 b5 b6 b7 b8 b9 b10 a D : Nat} {P : Prop} (h : b0 < D ∧ b1 < D ∧ b2 < D ∧ b3 < D ∧ b4 < D ∧ b5 < D ∧ b6 < D ∧ b7 < D ∧ b8 < D ∧ b9 < D ∧ b10 < D ∧ a < D ∧ P) : a < D := h.2.2.2.2.2.2.2.2.2.2.2.1
theorem o_c12 {b0 b1 b2 b3 b4 b5 b6 b7 b8 b9 b10 b11 a D : Nat} {P : Prop} (h : b0 < D ∧ b1 < D ∧ b2 < D ∧ b3 < D ∧ b4 < D ∧ b5 < D ∧ b6 < D ∧ b7 < D ∧ b8 < D ∧ b9 < D ∧ b10 < D ∧ b11 < D ∧ a < D ∧ P) : a < D := h.2.2.2.2.2.2.2.2.2.2.2.2.1
theorem o_c13 {b0 b1 b2 b3 b4 b5 b6 b7 b8 b9 b10 b11 b12 a D : Nat} {P : Prop} (h : b0 < D ∧ b1 < D ∧ b2 < D ∧ b3 < D ∧ b4 < D ∧ b5 < D ∧ b6 < D ∧ b7 < D ∧ b8 < D ∧ b9 < D ∧ b10 < D ∧ b11 < D ∧ b12 < D ∧ a < D ∧ P) : a < D := h.2.2.2.2.2.2.2.2.2.2.2.2.2.1
end Mine

end PartPOm
local macro_rules | `(tactic| walk_at "oc") => `(tactic| first | exact Mine.o_c0 ‹_› | exact Mine.o_c1 ‹_› | exact Mine.o_c2 ‹_› | exact Mine.o_c3 ‹_› | exact Mine.o_c4 ‹_› | exact Mine.o_c5 ‹_› | exact Mine.o_c6 ‹_› | exact Mine.o_c7 ‹_› | exact Mine.o_c8 ‹_› | exact Mine.o_c9 ‹_› | exact Mine.o_c10 ‹_› | exact Mine.o_c11 ‹_› | exact Mine.o_c12 ‹_› | exact Mine.o_c13 ‹_› | fail)
local macro_rules | `(tactic| omega) => `(tactic| (with_reducible (fail_if_success (fail_if_success (omega +splitNatSub))); with_reducible first | assumption | decide +kernel | rfl | exact Eq.symm ‹_› | (show @LT.lt Nat _ _ _; first | exact Mine.o_lt0 ‹_› | walk_at "oc" | (refine Mine.o_nm ?_ ?_ <;> decide +kernel) | exact Nat.succ_pos _ | ((first | refine Mine.o_lt1 ‹_› ?_ | refine Mine.o_lt2 ‹_› ?_ | refine Mine.o_lt3 ‹_› ?_ | refine Mine.o_lt4 ‹_› ?_ | refine Mine.o_eq2lt ‹_› ‹_› ‹_› ?_ | refine Mine.o_eqlt ‹_› ‹_› ?_ | refine Mine.o_eqltm ‹_› ‹_› ?_ | refine Mine.o_ltm ‹_› ?_ | refine Mine.o_lt ‹_› ?_ | fail); decide +kernel) | fail) | (show @LE.le Nat _ _ _; first | exact Nat.le_of_lt ‹_› | exact Mine.o_tk ‹_› ‹_› | exact Mine.o_tk1 ‹_› ‹_› | exact Mine.o_tk2 ‹_› ‹_› | exact Mine.o_tk3 ‹_› ‹_› | ((first | refine Mine.o_eq3le ‹_› ‹_› ‹_› ‹_› ?_ | refine Mine.o_eq2le ‹_› ‹_› ‹_› ?_ | refine Mine.o_eqle ‹_› ‹_› ?_ | refine Mine.o_lem2 ‹_› ‹_› ?_ | refine Mine.o_lem ‹_› ?_ | refine Mine.o_le ‹_› ?_ | refine Mine.o_ge ‹_› ?_ | refine Mine.o_add1 ‹_› ?_ | fail); decide +kernel) | fail) | (show @LT.lt Int _ _ _; first | (refine Mine.o_im ?_ ?_ <;> decide +kernel) | ((first | refine Mine.o_0ilmm ‹_› ‹_› ?_ | refine Mine.o_0ieqlt ‹_› ‹_› ?_ | refine Mine.o_0ilm ‹_› ?_ | refine Mine.o_0ilt ‹_› ?_ | refine Mine.o_ilmm ‹_› ‹_› ?_ | refine Mine.o_ieq2lt ‹_› ‹_› ‹_› ?_ | refine Mine.o_ieqlt ‹_› ‹_› ?_ | refine Mine.o_ilm ‹_› ?_ | refine Mine.o_ilt ‹_› ?_ | fail); decide +kernel) | fail) | (show @LE.le Int _ _ _; first | exact Int.natCast_nonneg _ | (refine Mine.o_i0 ?_; decide +kernel) | (refine Mine.o_iml ?_ ?_ <;> decide +kernel) | ((first | refine Mine.o_ieq2le ‹_› ‹_› ‹_› ?_ | refine Mine.o_ieqle ‹_› ‹_› ?_ | refine Mine.o_ilem ‹_› ?_ | refine Mine.o_ile ‹_› ?_ | fail); decide +kernel) | fail) | (show _ ≠ _; first | exact Ne.symm ‹_› | exact Nat.succ_ne_self _ | exact (Nat.succ_ne_self _).symm | (refine Nat.ne_of_gt ?_; first | assumption | walk_at "oc") | (refine Nat.ne_of_lt ?_; first | assumption | walk_at "oc")) | exact Eq.trans ‹_› (Eq.symm ‹_›) | exact (Int.zero_add _).symm | (refine Mine.o_nge ‹_› ?_; decide +kernel) | fail))
section PartPTok
open PySem PySem.W PyProof.Rows
set_option maxRecDepth 100000
set_option maxHeartbeats 8000000
namespace Mine
theorem runs_toks {M : Model} {Γ : Ctx} {p : Pos} {t : Sem Fin} {fs : List Frame} {s : Shared} {e : End} {s' : Shared} (h : Runs M Γ p t fs s e s') : s.toks ≤ s'.toks := by
  induction h <;> first
    | exact Nat.le_refl _
    | assumption
    | (rename_i ih1 ih2; exact Nat.le_trans ih1 ih2)
    | (rename_i ih; exact Nat.le_trans (Nat.le_succ _) ih)
theorem returns_toks {M : Model} {Γ : Ctx} {p : Pos} {s : Shared} {r : Result} {s' : Shared} (h : Returns M Γ p s r s') : s.toks ≤ s'.toks := runs_toks h
theorem wakes_toks {M : Model} {Γ : Ctx} {p : Pos} {g : Nat} {r : Resume} {s : Shared} {res : GenResult} {s' : Shared} (h : Wakes M Γ p g r s res s') : s.toks ≤ s'.toks := by
  unfold Wakes at h
  split at h
  · exact h.elim
  · split at h
    · obtain ⟨e₁, s₁, hr, _, _, rfl⟩ := h
      exact (runs_toks hr : (s.setGen g .running).toks ≤ s₁.toks)
    · rw [h.2]; exact Nat.le_refl _
    · rw [h.2]; exact Nat.le_refl _
  · obtain ⟨e₁, s₁, hr, _, _, rfl⟩ := h
    exact (runs_toks hr : (s.setGen g .running).toks ≤ s₁.toks)
  · rw [h.2]; exact Nat.le_refl _
  · rw [h.2]; exact Nat.le_refl _
theorem wp_toks {α : Type} {M : Model} {Γ : Ctx} (n : Nat) : ∀ (t : Sem α) (Q : α → Pos → Shared → Prop) (E : Value → Pos → Shared → Prop) (p : Pos) (s : Shared), n ≤ s.toks → Sem.wp M Γ t (fun a p s' => n ≤ s'.toks → Q a p s') (fun e p s' => n ≤ s'.toks → E e p s') p s → Sem.wp M Γ t Q E p s := by
  intro t
  induction t with
  | pure a => intro Q E p s hn h; rw [Sem.wp] at h ⊢; exact h hn
  | raise e => intro Q E p s hn h; rw [Sem.wp] at h ⊢; exact h hn
  | unsupported => intro Q E p s hn h; rw [Sem.wp] at h; exact h.elim
  | finish => intro Q E p s hn h; rw [Sem.wp] at h; exact h.elim
  | rule tag k ih => intro Q E p s hn h; rw [Sem.wp] at h ⊢; exact ih _ _ _ _ _ hn h
  | «at» p' k ih => intro Q E p s hn h; rw [Sem.wp] at h ⊢; exact ih _ _ _ _ _ hn h
  | load a part k ih => intro Q E p s hn h; rw [Sem.wp] at h ⊢; obtain ⟨o, ho, h⟩ := h; exact ⟨o, ho, ih _ _ _ _ _ hn h⟩
  | update a part f k ih => intro Q E p s hn h; rw [Sem.wp] at h ⊢; exact ⟨h.1, ih _ _ _ _ { s with heap := s.heap.update a f } hn h.2⟩
  | loadIfAlive a k ih => intro Q E p s hn h; rw [Sem.wp] at h ⊢; exact ih _ _ _ _ _ hn h
  | point l k ih => intro Q E p s hn h; rw [Sem.wp] at h ⊢; exact ih _ _ _ _ _ hn h
  | register => intro Q E p s hn h; rw [Sem.wp] at h; exact h.elim
  | alloc o k ih => intro Q E p s hn h; rw [Sem.wp] at h ⊢; exact ih _ _ _ _ { s with heap := s.heap.push o } hn h
  | fresh k ih => intro Q E p s hn h; rw [Sem.wp] at h ⊢; exact ih _ _ _ _ { s with toks := s.toks + 1 } (Nat.le_succ_of_le hn) h
  | ask k ih => intro Q E p s hn h; rw [Sem.wp] at h ⊢; exact ih _ _ _ _ _ hn h
  | choose src m k ih => intro Q E p s hn h; rw [Sem.wp] at h ⊢; exact ⟨h.1, ih _ _ _ _ { s with drawn := s.drawn.bump src } hn h.2⟩
  | os q l k ih => intro Q E p s hn h; rw [Sem.wp] at h ⊢; exact ih _ _ _ _ { s with os := (Os.step s.os q).1 } hn h
  | call c hd g l k ih => intro Q E p s hn h; rw [Sem.wp] at h ⊢; obtain ⟨r, s', hr, h⟩ := h; exact ⟨r, s', hr, ih _ _ _ _ _ (Nat.le_trans hn (returns_toks hr)) h⟩
  | handled own k ih => intro Q E p s hn h; rw [Sem.wp] at h ⊢; exact ih _ _ _ _ _ hn h
  | genState g k ih => intro Q E p s hn h; rw [Sem.wp] at h ⊢; obtain ⟨st, hs, h⟩ := h; exact ⟨st, hs, ih _ _ _ _ _ hn h⟩
  | newGen c k ih => intro Q E p s hn h; rw [Sem.wp] at h ⊢; exact ih _ _ _ _ { s with gens := s.gens.push (.fresh c) } hn h
  | resume g r l k ih => intro Q E p s hn h; rw [Sem.wp] at h ⊢; obtain ⟨res, s', hr, h⟩ := h; exact ⟨res, s', hr, ih _ _ _ _ _ (Nat.le_trans hn (wakes_toks hr)) h⟩
  | yield => intro Q E p s hn h; rw [Sem.wp] at h; exact h.elim
  | stack k ih => intro Q E p s hn h; rw [Sem.wp] at h ⊢; exact ih _ _ _ _ _ hn h
  | fork => intro Q E p s hn h; rw [Sem.wp] at h; exact h.elim
  | thread k ih => intro Q E p s hn h; rw [Sem.wp] at h ⊢; exact ih _ _ _ _ _ hn h
  | await => intro Q E p s hn h; rw [Sem.wp] at h; exact h.elim
section
variable {α : Type} {M : Model} {A : Around} {s : Shared}
theorem wpAny_toks {t : Sem α} {Q : α → Shared → Prop} {E : Value → Shared → Prop} (n : Nat) (hn : n ≤ s.toks) (h : wpAny M A t (fun a s' => n ≤ s'.toks → Q a s') E s) : wpAny M A t Q E s :=
  fun Γ p hΓ => wp_toks n t _ _ p s hn (Sem.wp_mono M Γ t (post := fun a _ s' => n ≤ s'.toks → Q a s') (exc := fun e _ s' => E e s') (exc' := fun e _ s' => n ≤ s'.toks → E e s') (fun _ _ _ x => x) (fun _ _ _ x _ => x) p s (h Γ p hΓ))
theorem codeAny_toks {c : Code} {R : Result → Shared → Prop} (n : Nat) (hn : n ≤ s.toks) (h : codeAny M A c (fun r s' => n ≤ s'.toks → R r s') s) : codeAny M A c R s := fun Γ p hc hb => by
  obtain ⟨r, s', hr, hR⟩ := h Γ p hc hb
  exact ⟨r, s', hr, hR (Nat.le_trans hn (returns_toks hr))⟩
theorem tk_gen {t : Sem α} {Q : α → Shared → Prop} {E : Value → Shared → Prop} {h : Heap} {g : _} {d : _} {X : Nat} {o : _} (hh : ∀ tk, X ≤ tk → wpAny M A t Q E (Shared.mk h g d tk o)) : wpAny M A t Q E (Shared.mk h g d X o) := hh X (Nat.le_refl _)
end
end Mine

end PartPTok
section PartPMax


open PySem PySem.W PyProof.Rows
set_option maxRecDepth 100000
set_option maxHeartbeats 8000000

open PySem.Flt PySem.Calls
namespace Mine
noncomputable def mx2 (a b : UInt64) : UInt64 := if (Float64.cmp a b == some .lt) = true then b else a
noncomputable def mn2 (a b : UInt64) : UInt64 := if (Float64.cmp b a == some .lt) = true then b else a
theorem getD_three {i : Nat} {a b c v : Value} (h : #[a, b, c][i]? = some v) : v = #[a, b, c].getD i .none := by
  simp [Array.getD_eq_getD_getElem?, h]
section
variable {prog : Program} {w : World} {A : Around} {E : Value → Shared → Prop} {s : Shared} {Q : Value → Shared → Prop} {x y z : UInt64} {t u v : Tok} {h₀ : Heap} {L : Addr} {m : Str → Option Value} {news : List (Addr × Obj)}
theorem max3_float (hh : A.handled = none) (F : Fr h₀ L s.heap m) (N : News h₀ L s.heap news)
    (h : ∀ h' tk k, Fr h₀ L h' m → News h₀ L h' news → Q (.float (mx2 (mx2 x y) z) k) { s with heap := h', toks := tk }) :
    wpAny (model prog w) A (call (.builtin "max") [.float x t, .float y u, .float z v]) Q E s := by
  have hT : (s.heap.push { cls := .type "tuple", data := .seq #[.float x t, .float y u, .float z v] }).IsTuple s.heap.objs.size #[.float x t, .float y u, .float z v] := ⟨_, Heap.get?_push_size _ rfl, rfl, 0, rfl⟩
  refine call_max_three (wpAny_pyIter_tuple hT ?_)
  have hsz : (s.heap.push { cls := .type "tuple", data := .seq #[.float x t, .float y u, .float z v] }).objs.size = s.heap.objs.size + 1 := Heap.size_push ..
  refine ⟨_, [_, s.heap.objs.size], [_], _, _, _, _, rfl, Walks.tuple (A := A.in1) hh _ s.heap.objs.size (by rw [hsz]; exact Nat.ne_of_lt (Nat.lt_succ_self _)) _, ⟨⟨_, Heap.get?_push_size _ rfl, rfl, rfl⟩, hT.push _⟩, ?_, by simp,
    cmpOf_gt #[.float x t, .float y u, .float z v] (by simp; exact ⟨.float x t, .float y u, .float z v⟩), ?_⟩
  · intro d hd
    show d < ((s.heap.push _).push _).objs.size
    rw [Heap.size_push, hsz]
    simp only [List.mem_cons, List.not_mem_nil, or_false] at hd
    rcases hd with rfl | rfl
    · rw [hsz]; exact Nat.lt_succ_self _
    · exact Nat.lt_succ_of_lt (Nat.lt_succ_self _)
  · intro b h' tk hP hk
    have kp : ∀ d o, s.heap.get? d = some o → h'.get? d = some o := fun d o e => by
      refine hk d o (fun hm => ?_) (Heap.get?_push_of_some _ (Heap.get?_push_of_some _ e))
      have := Heap.lt_size e
      simp only [List.mem_cons, List.not_mem_nil, or_false] at hm
      rw [hm, hsz] at this
      exact Nat.lt_irrefl _ (Nat.lt_of_succ_lt this)
    have key := fun k => h h' tk k (F.grownK kp) (N.grown kp)
    have hv := getD_three hP
    have hb : ∃ k, b = .float (mx2 (mx2 x y) z) k := by
      rw [hv]
      unfold mx2
      cases c1 : (Float64.cmp x y == some .lt) <;> cases c2 : (Float64.cmp x z == some .lt) <;> cases c3 : (Float64.cmp y z == some .lt) <;> simp [argBest, ltV, c1, c2, c3]
    obtain ⟨k, rfl⟩ := hb
    exact key k
theorem min3_float (hh : A.handled = none) (F : Fr h₀ L s.heap m) (N : News h₀ L s.heap news)
    (h : ∀ h' tk k, Fr h₀ L h' m → News h₀ L h' news → Q (.float (mn2 (mn2 x y) z) k) { s with heap := h', toks := tk }) :
    wpAny (model prog w) A (call (.builtin "min") [.float x t, .float y u, .float z v]) Q E s := by
  have hT : (s.heap.push { cls := .type "tuple", data := .seq #[.float x t, .float y u, .float z v] }).IsTuple s.heap.objs.size #[.float x t, .float y u, .float z v] := ⟨_, Heap.get?_push_size _ rfl, rfl, 0, rfl⟩
  refine call_min_three (wpAny_pyIter_tuple hT ?_)
  have hsz : (s.heap.push { cls := .type "tuple", data := .seq #[.float x t, .float y u, .float z v] }).objs.size = s.heap.objs.size + 1 := Heap.size_push ..
  refine ⟨_, [_, s.heap.objs.size], [_], _, _, _, _, rfl, Walks.tuple (A := A.in1) hh _ s.heap.objs.size (by rw [hsz]; exact Nat.ne_of_lt (Nat.lt_succ_self _)) _, ⟨⟨_, Heap.get?_push_size _ rfl, rfl, rfl⟩, hT.push _⟩, ?_, by simp,
    cmpOf_lt #[.float x t, .float y u, .float z v] (by simp; exact ⟨.float x t, .float y u, .float z v⟩), ?_⟩
  · intro d hd
    show d < ((s.heap.push _).push _).objs.size
    rw [Heap.size_push, hsz]
    simp only [List.mem_cons, List.not_mem_nil, or_false] at hd
    rcases hd with rfl | rfl
    · rw [hsz]; exact Nat.lt_succ_self _
    · exact Nat.lt_succ_of_lt (Nat.lt_succ_self _)
  · intro b h' tk hP hk
    have kp : ∀ d o, s.heap.get? d = some o → h'.get? d = some o := fun d o e => by
      refine hk d o (fun hm => ?_) (Heap.get?_push_of_some _ (Heap.get?_push_of_some _ e))
      have := Heap.lt_size e
      simp only [List.mem_cons, List.not_mem_nil, or_false] at hm
      rw [hm, hsz] at this
      exact Nat.lt_irrefl _ (Nat.lt_of_succ_lt this)
    have key := fun k => h h' tk k (F.grownK kp) (N.grown kp)
    have hv := getD_three hP
    have hb : ∃ k, b = .float (mn2 (mn2 x y) z) k := by
      rw [hv]
      unfold mn2
      cases c1 : (Float64.cmp y x == some .lt) <;> cases c2 : (Float64.cmp z x == some .lt) <;> cases c3 : (Float64.cmp z y == some .lt) <;> simp [argBest, ltV, c1, c2, c3]
    obtain ⟨k, rfl⟩ := hb
    exact key k
end
end Mine

end PartPMax
section DryPFlo
local macro_rules | `(tactic| walk_at "z0") => `(tactic| skip)
theorem Mine.offPFlo : True := by
  w_top off
  k_with_none
  try walk1
  trivial
end DryPFlo
section PartPFlo
open PySem PySem.W PyProof.Rows
set_option maxRecDepth 100000
set_option maxHeartbeats 8000000
set_option linter.unusedSectionVars false
open PySem.Flt
namespace Mine
theorem div_nz {prog : Program} {w : World} {A : Around} {E : Value → Shared → Prop} {s : Shared} {a b : UInt64} {t u : Tok} {Q : Value → Shared → Prop} (hA : A.handled = none) (hb : Float64.isZero b = false)
    (h : Q (.float (Float64.div a b) s.toks) { s with toks := s.toks + 1 }) : wpAny (model prog w) A (binaryOp .Div (.float a t) (.float b u)) Q E s :=
  truediv_float_or hA (fun e => by rw [hb] at e; cases e) (fun _ => h)
theorem mod_nz {prog : Program} {w : World} {A : Around} {E : Value → Shared → Prop} {s : Shared} {a b : UInt64} {t u : Tok} {Q : Value → Shared → Prop} (hA : A.handled = none) (hb : Float64.isZero b = false)
    (h : Q (.float (Float64.divmod a b).2 s.toks) { s with toks := s.toks + 1 }) : wpAny (model prog w) A (binaryOp .Mod (.float a t) (.float b u)) Q E s :=
  mod_ff hA (fun e => by rw [hb] at e; cases e) (fun _ => h)
noncomputable abbrev tupO (vs : List Value) : Obj := { cls := .type "tuple", data := .seq vs.toArray }
noncomputable abbrev f1 : UInt64 := 4607182418800017408
noncomputable abbrev f2 : UInt64 := 4611686018427387904
noncomputable abbrev f4 : UInt64 := 4616189618054758400
noncomputable abbrev f6 : UInt64 := 4618441417868443648
noncomputable def hueF (maxc rc gc bc r g : UInt64) : UInt64 :=
  let h := if (Float64.cmp r maxc == some .eq) = true then Float64.sub bc gc else if (Float64.cmp g maxc == some .eq) = true then Float64.sub (Float64.add f2 rc) bc else Float64.sub (Float64.add f4 gc) rc
  (Float64.divmod (Float64.div h f6) f1).2
noncomputable def hsvH (r g b : UInt64) : UInt64 :=
  let maxc := mx2 (mx2 r g) b
  let minc := mn2 (mn2 r g) b
  let rangec := Float64.sub maxc minc
  hueF maxc (Float64.div (Float64.sub maxc r) rangec) (Float64.div (Float64.sub maxc g) rangec) (Float64.div (Float64.sub maxc b) rangec) r g
noncomputable def hlsL (r g b : UInt64) : UInt64 := Float64.div (Float64.add (mx2 (mx2 r g) b) (mn2 (mn2 r g) b)) f2
noncomputable def colOk (r g b : UInt64) : Prop :=
  (Float64.cmp (mn2 (mn2 r g) b) (mx2 (mx2 r g) b) == some .eq) = false ∧ Float64.isZero (Float64.sub (mx2 (mx2 r g) b) (mn2 (mn2 r g) b)) = false ∧ Float64.isZero (Float64.add (mx2 (mx2 r g) b) (mn2 (mn2 r g) b)) = false ∧
  Float64.isZero (Float64.sub (Float64.sub f2 (mx2 (mx2 r g) b)) (mn2 (mn2 r g) b)) = false ∧ Float64.isZero (mx2 (mx2 r g) b) = false
local macro_rules | `(tactic| walk_at "execs cons") => `(tactic| (k_here; (with_reducible show wpAny _ _ _ _ _ (Shared.mk _ _ _ (_ + _) _)); refine tk_gen ?_; intro _ _))
local macro_rules | `(tactic| walk_at "execs nil") => `(tactic| (k_here; (with_reducible show wpAny _ _ _ _ _ (Shared.mk _ _ _ (_ + _) _)); refine tk_gen ?_; intro _ _))
section
variable {w : World} {mean : ExcName → Option Value} {mg mb : Str → Option Value} {dp un : Nat} {gd : Option (List Code)} {cn : Str} {cs : Scope} {a : Addr} {ccd : Value} {cl : List (Str × Addr)} {outer : List Env} {A₀ : Around} {base h₀ : Heap} {L : Addr} {m : Str → Option Value} {news : List (Addr × Obj)} {s : Shared} {Q E : Value → Shared → Prop}
 (B : Below A₀ base outer h₀) (F : Fr h₀ L s.heap m) (X : (Mine.hd.heap_1 w.params).In h₀) (N : News h₀ L s.heap news)
 (T : Top Mine.hd.view_1 (looseW Mine.hd.view_1 [Str.ofString "insort_right", Str.ofString "bisect_right", Str.ofString "insort_left", Str.ofString "bisect_left", Str.ofString "Whitespace"]) mean mg mb h₀) (hk : cs.kind = .function) (hd : dp + 1 < recursionLimit) (hu : un + 8 < cLine)
include B F X N T hk hd hu
theorem hls_c {r g b : UInt64} {tr tg tb : Tok} (ok : colOk r g b)
 (ret : ∀ t t' t'' h' tk' a x z, Fr h₀ L h' m → News h₀ L h' ((a, tupO [.float x t, .float (hlsL r g b) t', .float z t'']) :: news) → (∀ p ∈ news, p.1 < a) → s.toks ≤ t' → Q (.ref a) {s with heap := h', toks := tk'})
 : wpAny (model PySem.Challenge.rw_sc0103_01.row.prog w) (ktrTop dp un gd cn cs L a ccd cl outer) (call (.ref 64) [.float r tr, .float g tg, .float b tb]) Q E s := by
  obtain ⟨k1, k2, k3, k4, k5⟩ := ok
  refine wpAny_call ?_
  k_dflt ktr_enter
  try ((show let A0z := _; let Q0z := _; let E0z := _; wpAny _ A0z _ Q0z E0z _); intro A0z Q0z E0z)
  (k_steps <;> repeat' (first | ((with_reducible show wpAny _ _ (binaryOp .Mod (Value.float _ _) (Value.float _ _)) _ _ _); k_dflt (refine mod_nz rfl (by first | (with_reducible assumption) | decide +kernel) ?_) <;> k_steps) | ((with_reducible show wpAny _ _ (binaryOp .Div (Value.float _ _) (Value.float _ _)) _ _ _); k_dflt (refine div_nz rfl (by first | (with_reducible assumption) | decide +kernel) ?_) <;> k_steps) | (((with_reducible show wpAny _ _ (call (Value.builtin "min") [Value.float _ _, Value.float _ _, Value.float _ _]) _ _ _); (rename News _ _ _ _ => N'); (rename Fr _ _ _ _ => F'); refine wpAny_toks _ (Nat.le_refl _) (min3_float rfl F' N' ?_); clear N'; intro _ _ _ _ _ _) <;> k_steps) | (((with_reducible show wpAny _ _ (call (Value.builtin "max") [Value.float _ _, Value.float _ _, Value.float _ _]) _ _ _); (rename News _ _ _ _ => N'); (rename Fr _ _ _ _ => F'); refine wpAny_toks _ (Nat.le_refl _) (max3_float rfl F' N' ?_); clear N'; intro _ _ _ _ _ _) <;> k_steps)))
  all_goals (refine ret _ _ _ _ _ _ _ _ (by k_asm) (by k_asm) (by assumption) ?_; dsimp only at *; omega)
theorem hsv_c {r g b : UInt64} {tr tg tb : Tok} (ok : colOk r g b)
 (ret : ∀ t t' t'' h' tk' a x z, Fr h₀ L h' m → News h₀ L h' ((a, tupO [.float (hsvH r g b) t, .float x t', .float z t'']) :: news) → (∀ p ∈ news, p.1 < a) → s.toks ≤ t → Q (.ref a) {s with heap := h', toks := tk'})
 : wpAny (model PySem.Challenge.rw_sc0103_01.row.prog w) (ktrTop dp un gd cn cs L a ccd cl outer) (call (.ref 71) [.float r tr, .float g tg, .float b tb]) Q E s := by
  obtain ⟨k1, k2, k3, k4, k5⟩ := ok
  refine wpAny_call ?_
  k_dflt ktr_enter
  try ((show let A0z := _; let Q0z := _; let E0z := _; wpAny _ A0z _ Q0z E0z _); intro A0z Q0z E0z)
  (k_steps <;> repeat' (first | ((with_reducible show wpAny _ _ (binaryOp .Mod (Value.float _ _) (Value.float _ _)) _ _ _); k_dflt (refine mod_nz rfl (by first | (with_reducible assumption) | decide +kernel) ?_) <;> k_steps) | ((with_reducible show wpAny _ _ (binaryOp .Div (Value.float _ _) (Value.float _ _)) _ _ _); k_dflt (refine div_nz rfl (by first | (with_reducible assumption) | decide +kernel) ?_) <;> k_steps) | (((with_reducible show wpAny _ _ (call (Value.builtin "min") [Value.float _ _, Value.float _ _, Value.float _ _]) _ _ _); (rename News _ _ _ _ => N'); (rename Fr _ _ _ _ => F'); refine wpAny_toks _ (Nat.le_refl _) (min3_float rfl F' N' ?_); clear N'; intro _ _ _ _ _ _) <;> k_steps) | (((with_reducible show wpAny _ _ (call (Value.builtin "max") [Value.float _ _, Value.float _ _, Value.float _ _]) _ _ _); (rename News _ _ _ _ => N'); (rename Fr _ _ _ _ => F'); refine wpAny_toks _ (Nat.le_refl _) (max3_float rfl F' N' ?_); clear N'; intro _ _ _ _ _ _) <;> k_steps)))
  all_goals (refine ret _ _ _ _ _ _ _ _ (by k_asm) (by (unfold hsvH hueF; dsimp only; simp only [*, if_true, if_false, Bool.false_eq_true]; k_asm)) (by assumption) ?_; dsimp only at *; omega)
end
end Mine

end PartPFlo
section DryPRgb
local macro_rules | `(tactic| walk_at "z0") => `(tactic| skip)
theorem Mine.offPRgb : True := by
  w_top off
  k_with_none
  try walk1
  trivial
end DryPRgb
section PartPRgb
open PySem PySem.W PyProof.Rows
set_option maxRecDepth 100000
set_option maxHeartbeats 8000000
set_option linter.unusedSectionVars false
open PySem.Flt
namespace Mine
noncomputable def iOf (h : UInt64) : Int := toInt Float64.truncOf (Float64.mul h f6)
noncomputable def rgbF (h _s _v : UInt64) : UInt64 := Float64.sub (Float64.mul h f6) (Float64.ofInt (iOf h))
noncomputable def rgbP (_h s v : UInt64) : UInt64 := Float64.mul v (Float64.sub f1 s)
noncomputable def rgbQ (h s v : UInt64) : UInt64 := Float64.mul v (Float64.sub f1 (Float64.mul s (rgbF h s v)))
noncomputable def rgbT (h s v : UInt64) : UInt64 := Float64.mul v (Float64.sub f1 (Float64.mul s (Float64.sub f1 (rgbF h s v))))
noncomputable def rgbOf (h s v : UInt64) : UInt64 × UInt64 × UInt64 :=
  if Int.fmod (iOf h) 6 = 0 then (v, rgbT h s v, rgbP h s v) else if Int.fmod (iOf h) 6 = 1 then (rgbQ h s v, v, rgbP h s v) else if Int.fmod (iOf h) 6 = 2 then (rgbP h s v, v, rgbT h s v) else
  if Int.fmod (iOf h) 6 = 3 then (rgbP h s v, rgbQ h s v, v) else if Int.fmod (iOf h) 6 = 4 then (rgbT h s v, rgbP h s v, v) else (v, rgbP h s v, rgbQ h s v)
section
variable {w : World} {mean : ExcName → Option Value} {mg mb : Str → Option Value} {dp un : Nat} {gd : Option (List Code)} {cn : Str} {cs : Scope} {a : Addr} {ccd : Value} {cl : List (Str × Addr)} {outer : List Env} {A₀ : Around} {base h₀ : Heap} {L : Addr} {m : Str → Option Value} {news : List (Addr × Obj)} {s : Shared} {Q E : Value → Shared → Prop}
 (B : Below A₀ base outer h₀) (F : Fr h₀ L s.heap m) (X : (Mine.hd.heap_1 w.params).In h₀) (N : News h₀ L s.heap news)
 (T : Top Mine.hd.view_1 (looseW Mine.hd.view_1 [Str.ofString "insort_right", Str.ofString "bisect_right", Str.ofString "insort_left", Str.ofString "bisect_left", Str.ofString "Whitespace"]) mean mg mb h₀) (hk : cs.kind = .function) (hd : dp + 1 < recursionLimit) (hu : un + 8 < cLine)
include B F X N T hk hd hu
theorem rgb_c {h₁ s₁ v₁ : UInt64} {tr tg tb : Tok} (c1 : (Float64.cmp s₁ 0 == some .eq) = false) (c2 : Float64.isFinite (Float64.mul h₁ f6) = true) (c3 : 0 ≤ toInt Float64.truncOf (Float64.mul h₁ f6) ∧ toInt Float64.truncOf (Float64.mul h₁ f6) < 100)
 (ret : ∀ t t' t'' h' tk' a, Fr h₀ L h' m → News h₀ L h' ((a, tupO [.float (rgbOf h₁ s₁ v₁).1 t, .float (rgbOf h₁ s₁ v₁).2.1 t', .float (rgbOf h₁ s₁ v₁).2.2 t'']) :: news) → (∀ p ∈ news, p.1 < a) → Q (.ref a) {s with heap := h', toks := tk'})
 : wpAny (model PySem.Challenge.rw_sc0103_01.row.prog w) (ktrTop dp un gd cn cs L a ccd cl outer) (call (.ref 78) [.float h₁ tr, .float s₁ tg, .float v₁ tb]) Q E s := by
  refine wpAny_call ?_
  k_dflt ktr_enter
  try ((show let A0z := _; let Q0z := _; let E0z := _; wpAny _ A0z _ Q0z E0z _); intro A0z Q0z E0z)
  (k_steps <;> repeat' (first | ((k_here; (with_reducible show wpAny _ _ (call (Value.ref 64) [_, _, _]) _ _ _); k_dflt (refine' hls_c ?k1 ?k2 ?k3 ?k4 ?k5 ?kK ?kd ?ku ?ok ?_; (case k1 => k_asm); (case k2 => k_asm); (case k3 => k_asm); (case k4 => k_asm); (case k5 => k_asm); (case kK => first | exact rfl | assumption); (case kd => ktr_room); (case ku => ktr_units); (case ok => assumption)); (intro t9z t8 t7 h9z tk9z a9z x9z z9z F9z N9z l9z q9z); (try dsimp only); (try k_fold)) <;> k_steps)))
  all_goals first
    | (refine ret _ _ _ _ _ _ (by k_asm) (by (unfold rgbOf; simp only [rgbQ, rgbT, rgbP, rgbF, iOf, ‹(toInt Float64.truncOf (Float64.mul h₁ f6)).fmod 6 = _›, Int.reduceEq, if_true, if_false]; k_asm)) (by assumption))
    | (exfalso; (have z0 := Int.fmod_eq_emod_of_nonneg (toInt Float64.truncOf (Float64.mul h₁ 4618441417868443648)) (b := 6) (by decide)); omega)
end
local macro_rules | `(tactic| walk_at "execs cons") => `(tactic| (k_here; (with_reducible show wpAny _ _ _ _ _ (Shared.mk _ _ _ (_ + _) _)); refine tk_gen ?_; intro _ _))
local macro_rules | `(tactic| walk_at "execs nil") => `(tactic| (k_here; (with_reducible show wpAny _ _ _ _ _ (Shared.mk _ _ _ (_ + _) _)); refine tk_gen ?_; intro _ _))
section
variable {w : World} {mean : ExcName → Option Value} {mg mb : Str → Option Value} {dp un : Nat} {gd : Option (List Code)} {cn : Str} {cs : Scope} {a : Addr} {ccd : Value} {cl : List (Str × Addr)} {outer : List Env} {A₀ : Around} {base h₀ : Heap} {L : Addr} {m : Str → Option Value} {news : List (Addr × Obj)} {s : Shared} {Q E : Value → Shared → Prop}
 (B : Below A₀ base outer h₀) (F : Fr h₀ L s.heap m) (X : (Mine.hd.heap_1 w.params).In h₀) (N : News h₀ L s.heap news)
 (T : Top Mine.hd.view_1 (looseW Mine.hd.view_1 [Str.ofString "insort_right", Str.ofString "bisect_right", Str.ofString "insort_left", Str.ofString "bisect_left", Str.ofString "Whitespace"]) mean mg mb h₀) (hk : cs.kind = .function) (hd : dp + 2 < recursionLimit) (hu : un + 16 < cLine)
include B F X N T hk hd hu
theorem light_c {r g b : UInt64} {tr tg tb : Tok} {c : Addr} (hm : (c, tupO [.float r tr, .float g tg, .float b tb]) ∈ news) (ok : colOk r g b)
 (ret : ∀ t h' tk', Fr h₀ L h' m → News h₀ L h' news → s.toks ≤ t → Q (.float (hlsL r g b) t) {s with heap := h', toks := tk'})
 : wpAny (model PySem.Challenge.rw_sc0103_01.row.prog w) (ktrTop dp un gd cn cs L a ccd cl outer) (call (.ref 158) [.ref c]) Q E s := by
  refine wpAny_call ?_
  k_dflt ktr_enter
  try ((show let A0z := _; let Q0z := _; let E0z := _; wpAny _ A0z _ Q0z E0z _); intro A0z Q0z E0z)
  (k_steps <;> repeat' (first | ((k_here; (with_reducible show wpAny _ _ (call (Value.ref 64) [_, _, _]) _ _ _); k_dflt (refine' hls_c ?k1 ?k2 ?k3 ?k4 ?k5 ?kK ?kd ?ku ?ok ?_; (case k1 => k_asm); (case k2 => k_asm); (case k3 => k_asm); (case k4 => k_asm); (case k5 => k_asm); (case kK => first | exact rfl | assumption); (case kd => ktr_room); (case ku => ktr_units); (case ok => assumption)); (intro t9z t8 t7 h9z tk9z a9z x9z z9z F9z N9z l9z q9z); (try dsimp only); (try k_fold)) <;> k_steps)))
  all_goals (refine ret _ _ _ (by k_asm) (cb_drop (by k_asm) fun p hp => List.mem_cons_of_mem _ hp) ?_; dsimp only at *; omega)
end
end Mine

end PartPRgb
section DryPBis
local macro_rules | `(tactic| walk_at "z0") => `(tactic| skip)
theorem Mine.offPBis : True := by
  w_top off
  k_with_none
  try walk1
  trivial
end DryPBis
section PartPBis
open PySem PySem.W PyProof.Rows
set_option maxRecDepth 100000
set_option maxHeartbeats 8000000
set_option linter.unusedSectionVars false
open PySem.Flt
namespace Mine

noncomputable abbrev listO (vs : List Value) (k : Nat) : Obj := { cls := .type "list", data := .seq vs.toArray k }
section
variable {prog : Program} {w : World} {A : Around} {E : Value → Shared → Prop} {s : Shared} {h₀ : Heap} {L : Addr} {news : List (Addr × Obj)}
theorem half_of {a : Int} {t u : Tok} {Q : Value → Shared → Prop} (h0 : 0 ≤ a) (h1 : a < 2 ^ 40) (h : ∀ q t, 2 * q ≤ a → a < 2 * q + 2 → Q (.int q t) { s with toks := s.toks + 1 }) :
    wpAny (model prog w) A (binaryOp .FloorDiv (.int a t) (.int 2 u)) Q E s := by
  refine floordiv_int (by decide) ?_ (Or.inl (PyProof.noPylong_small (by omega)))
  have e : a.fdiv 2 = a / 2 := Int.fdiv_eq_ediv_of_nonneg a (by decide)
  refine h _ _ ?_ ?_ <;> rw [e] <;> omega
theorem lt_as {x y : UInt64} {t u : Tok} {d : Bool} {Q : Value → Shared → Prop} (e : (Float64.cmp x y == some .lt) = d) (h : Q (.bool d) s) : wpAny (model prog w) A (compareOp .Lt (.float x t) (.float y u)) Q E s :=
  AutoFloatOps.lt_0 (by rw [e]; exact h)
noncomputable def ColsAre (news : List (Addr × Obj)) (vs : List Value) (R : Nat → UInt64 → UInt64 → UInt64 → Prop) : Prop :=
  ∀ j, j < vs.length → ∃ c t1 t2 t3 r g b, vs[j]? = some (.ref c) ∧ (c, tupO [.float r t1, .float g t2, .float b t3]) ∈ news ∧ colOk r g b ∧ R j r g b
noncomputable def FltsAre (vs : List Value) (R : Nat → UInt64 → Prop) : Prop := ∀ j, j < vs.length → ∃ t x, vs[j]? = some (.float x t) ∧ R j x
theorem item_col {value slice : PySem.Expr} {l : Addr} {vs : List Value} {kk : Nat} {k : Int} {u : Tok} {R : Nat → UInt64 → UInt64 → UInt64 → Prop} {Q : Value → Shared → Prop} (N : News h₀ L s.heap news) (hl : (l, listO vs kk) ∈ news) (hc : ColsAre news vs R)
    (h0 : 0 ≤ k) (h1 : k < vs.length) (hfit : k < 2 ^ 63)
    (h : ∀ c t1 t2 t3 r g b, (c, tupO [.float r t1, .float g t2, .float b t3]) ∈ news → colOk r g b → R k.toNat r g b → Q (.ref c) s)
    (hs : subscripted slice false (.ref l) (.int k u) = operate [.ref l, .int k u] (getItem (.ref l) (.int k u)) := by with_unfolding_all rfl) :
    wpAny (model prog w) A (subscriptTail value slice (.ref l) (.int k u)) Q E s := by
  have hL : s.heap.IsList l vs.toArray := ⟨_, (N _ hl).1, rfl, _, rfl⟩
  obtain ⟨c, t1, t2, t3, r, g, b, e, hm, ok, hr⟩ := hc k.toNat (by omega)
  exact tail_any hL.typeIs slot_list_getitem.lookup (wpAny_getItem_list hL h0 hfit (by simpa using e) (h c t1 t2 t3 r g b hm ok hr)) hs
theorem item_flt {value slice : PySem.Expr} {l : Addr} {vs : List Value} {kk : Nat} {k : Int} {u : Tok} {R : Nat → UInt64 → Prop} {Q : Value → Shared → Prop} (N : News h₀ L s.heap news) (hl : (l, listO vs kk) ∈ news) (hc : FltsAre vs R)
    (h0 : 0 ≤ k) (h1 : k < vs.length) (hfit : k < 2 ^ 63)
    (h : ∀ t x, R k.toNat x → Q (.float x t) s)
    (hs : subscripted slice false (.ref l) (.int k u) = operate [.ref l, .int k u] (getItem (.ref l) (.int k u)) := by with_unfolding_all rfl) :
    wpAny (model prog w) A (subscriptTail value slice (.ref l) (.int k u)) Q E s := by
  have hL : s.heap.IsList l vs.toArray := ⟨_, (N _ hl).1, rfl, _, rfl⟩
  obtain ⟨t, x, e, hr⟩ := hc k.toNat (by omega)
  exact tail_any hL.typeIs slot_list_getitem.lookup (wpAny_getItem_list hL h0 hfit (by simpa using e) (h t x hr)) hs
theorem binds_KW {K : Frag} {fd : FuncData} {args : Args} {binds : List (Str × Value)} {T D : Addr} {o oD : Obj} {items : Array Value} {n : Nat} {part : Option Value} {k : Option (Array Value) → Sem (List (Str × Value))} {k5 : Obj → Sem (List (Str × Value))} (X : K.In s.heap) (hd : fd.defaults = .ref T) (ho : K.lookup T = some o) (hs : o.data = .seq items n)
    (h₁ : bindArgs fd args = seqItems? fd.defaults >>= k) (h₂ : k (some items) = Sem.load D part k5) (hD : K.lookup D = some oD) (h₃ : k5 oD = Sem.pure binds) : BindsTo s fd args binds := fun M A E Q hq => by
  rw [h₁, hd]
  refine wpAny_bind (wpAny_seqItems (X _ _ ho) hs ?_)
  rw [h₂]
  have z : wpAny M A (loadPart D part) (fun o s' => wpAny M A (k5 o) Q E s') E s := wpAny_loadPart (X _ _ hD) (by rw [h₃]; exact wpAny_pure hq)
  exact wpAny_bind z
theorem len_led {l : Addr} {vs : List Value} {kk : Nat} {Q : Value → Shared → Prop} (N : News h₀ L s.heap news) (hl : (l, listO vs kk) ∈ news) (hfit : vs.length < 2 ^ 40)
    (h : ∀ t tk', Q (.int (vs.length : Int) t) { s with toks := tk' }) : wpAny (model prog w) A (call (.builtin "len") [.ref l]) Q E s :=
  len_list (items := vs.toArray) ⟨_, (N _ hl).1, rfl, _, rfl⟩ (by rw [List.size_toArray]; omega) (by rw [List.size_toArray]; exact h _ _)
end
theorem bs_m1 {lo hi q n : Int} {j : Nat} (g1 : 2 * q ≤ lo + hi) (g2 : lo + hi < 2 * q + 2) (h0 : lo < hi) (h1 : 0 ≤ lo) (h2 : lo ≤ (j : Int)) (h3 : (j : Int) ≤ hi) (h4 : hi ≤ n) (c : j ≤ q.toNat) : 0 ≤ lo ∧ lo ≤ (j : Int) ∧ (j : Int) ≤ q ∧ q ≤ n := by
  have hq : 0 ≤ q := by omega
  exact ⟨h1, h2, by omega, by omega⟩
theorem bs_m2 {lo hi q n : Int} {j : Nat} (g1 : 2 * q ≤ lo + hi) (g2 : lo + hi < 2 * q + 2) (h0 : lo < hi) (h1 : 0 ≤ lo) (h3 : (j : Int) ≤ hi) (h4 : hi ≤ n) (c : ¬ j ≤ q.toNat) : 0 ≤ q + 1 ∧ q + 1 ≤ (j : Int) ∧ (j : Int) ≤ hi ∧ hi ≤ n := by
  have hq : 0 ≤ q := by omega
  exact ⟨by omega, by omega, h3, h4⟩
theorem bs_m3 {lo hi q n : Int} {j : Nat} (g1 : 2 * q ≤ lo + hi) (g2 : lo + hi < 2 * q + 2) (h0 : lo < hi) (h1 : 0 ≤ lo) (h2 : lo ≤ (j : Int)) (h3 : (j : Int) ≤ hi) (h4 : hi ≤ n) (c : ¬ q.toNat < j) : 0 ≤ lo ∧ lo ≤ (j : Int) ∧ (j : Int) ≤ q ∧ q ≤ n := bs_m1 g1 g2 h0 h1 h2 h3 h4 (Nat.le_of_not_lt c)
theorem bs_m4 {lo hi q n : Int} {j : Nat} (g1 : 2 * q ≤ lo + hi) (g2 : lo + hi < 2 * q + 2) (h0 : lo < hi) (h1 : 0 ≤ lo) (h3 : (j : Int) ≤ hi) (h4 : hi ≤ n) (c : q.toNat < j) : 0 ≤ q + 1 ∧ q + 1 ≤ (j : Int) ∧ (j : Int) ≤ hi ∧ hi ≤ n := bs_m2 g1 g2 h0 h1 h3 h4 (Nat.not_le_of_gt c)
theorem bs_d1 {lo hi q : Int} (g1 : 2 * q ≤ lo + hi) (g2 : lo + hi < 2 * q + 2) (h0 : lo < hi) : (q - lo).toNat < (hi - lo).toNat := by omega
theorem bs_d2 {lo hi q : Int} (g1 : 2 * q ≤ lo + hi) (g2 : lo + hi < 2 * q + 2) (h0 : lo < hi) : (hi - (q + 1)).toNat < (hi - lo).toNat := by omega
theorem bs_p {lo hi q : Int} (g1 : 2 * q ≤ lo + hi) (g2 : lo + hi < 2 * q + 2) (h0 : lo < hi) (h1 : 0 ≤ lo) : 0 ≤ q := by omega
local macro_rules | `(tactic| omega) => `(tactic| with_reducible first | exact bs_m1 ‹_› ‹_› ‹_› ‹_› ‹_› ‹_› ‹_› ‹_› | exact bs_m2 ‹_› ‹_› ‹_› ‹_› ‹_› ‹_› ‹_› | exact bs_m3 ‹_› ‹_› ‹_› ‹_› ‹_› ‹_› ‹_› ‹_› | exact bs_m4 ‹_› ‹_› ‹_› ‹_› ‹_› ‹_› ‹_› | exact bs_d1 ‹_› ‹_› ‹_› | exact bs_d2 ‹_› ‹_› ‹_› | exact bs_p ‹_› ‹_› ‹_› ‹_› | fail)
local macro_rules | `(tactic| walk_at "call builtin:len") => `(tactic| (k_here; (with_reducible show wpAny _ _ (call (Value.builtin "len") [Value.ref _]) _ _ _); k_dflt (refine' len_led ?k1 ?k2 ?k3 ?_; (case k1 => k_asm); (case k2 => k_mem); (case k3 => omega)); intro _ _))
local macro_rules | `(tactic| walk_at "compareOp Lt float float") => `(tactic| k_dflt (refine lt_as (by assumption) ?_))
local macro_rules | `(tactic| walk_at "binaryOp FloorDiv int int") => `(tactic| (k_here; (with_reducible refine half_of ?h0 ?h1 ?_); (case h0 => omega); (case h1 => omega); intro _ _ _ _))
section
variable {w : World} {mean : ExcName → Option Value} {mg mb : Str → Option Value} {dp un : Nat} {gd : Option (List Code)} {cn : Str} {cs : Scope} {a : Addr} {ccd : Value} {cl : List (Str × Addr)} {outer : List Env} {A₀ : Around} {base h₀ : Heap} {L : Addr} {m : Str → Option Value} {news : List (Addr × Obj)} {s : Shared} {Q E : Value → Shared → Prop}
 (B : Below A₀ base outer h₀) (F : Fr h₀ L s.heap m) (X : (Mine.hd.heap_1 w.params).In h₀) (N : News h₀ L s.heap news)
 (T : Top Mine.hd.view_1 (looseW Mine.hd.view_1 [Str.ofString "insort_right", Str.ofString "bisect_right", Str.ofString "insort_left", Str.ofString "bisect_left", Str.ofString "Whitespace"]) mean mg mb h₀) (hk : cs.kind = .function) (hd : dp + 3 < recursionLimit) (hu : un + 24 < cLine)
include B F X N T hk hd hu

theorem bisR_key {vs : List Value} {kk i : Nat} {al : Addr} {x : UInt64} {tx t0 : Tok} (hl : (al, listO vs kk) ∈ news) (hn : vs.length ≤ 1000) (hi : i ≤ vs.length)
 (hc : ColsAre news vs fun j r g b => (Float64.cmp x (hlsL r g b) == some .lt) = decide (i ≤ j))
 (ret : ∀ t h' tk', Fr h₀ L h' m → News h₀ L h' news → Q (.int i t) {s with heap := h', toks := tk'})
 : wpAny (model PySem.Challenge.rw_sc0103_01.row.prog w) (ktrTop dp un gd cn cs L a ccd cl outer) (call (.ref 39) [.ref al, .float x tx, .int 0 t0, .none] [(Str.ofString "key", .ref 158)]) Q E s := by
  k_with_none
  k_with "exec While Compare cons nil" => k_while (fun (_ : List Int) (lo hi : Int) => 0 ≤ lo ∧ lo ≤ (i : Int) ∧ (i : Int) ≤ hi ∧ hi ≤ (vs.length : Int)) (fun (_ : List Int) (lo hi : Int) => (hi - lo).toNat) "lo" "hi"
  refine wpAny_call ?_
  k_dflt (refine' code_def ?k1 ?k2 ?k3 ?k4 ?k5 ?kA ?kF ?kK ?k6 ?k7 ?k8 ?k9 ?kB ?_ ?c2 ?c3 ?c4 ?c5; (case kA => exact rfl); (case kF => exact rfl); (case kK => assumption); (case k1 => k_asm); (case k2 => k_asm); (case k3 => k_asm); (case k4 => k_asm); (case k5 => k_asm); (case k6 => k_is); (case k7 => k_is); (case k8 => ktr_room); (case k9 => first | exact BindsTo.of_eq rfl | exact binds_K (by k_in) rfl (by k_is) rfl rfl rfl | (refine' binds_KW ?x1 ?x2 ?x3 ?x4 ?x5 ?x6 ?x7 ?x8; (case x1 => k_in); (case x2 => exact rfl); (case x3 => k_is); (case x4 => exact rfl); (case x5 => exact rfl); (case x6 => exact rfl); (case x7 => k_is); (case x8 => exact rfl))); (case c5 => decide); (case kB => exact locs rfl); (case c2 => exact rfl); (case c3 => exact rfl); (case c4 => exact rfl); k_whole; intro g' L' h' FG' F' N' B' X' T'; (try dsimp only); (try k_fold))
  try ((show let A0z := _; let Q0z := _; let E0z := _; wpAny _ A0z _ Q0z E0z _); intro A0z Q0z E0z)
  (k_steps <;> repeat' (first | ((k_here; (with_reducible show wpAny _ _ (subscriptTail _ _ (Value.ref _) (Value.int _ _)) _ _ _); k_dflt (first | (refine' item_col ?k1 ?k2 ?k3 ?k4 ?k5 ?k6 ?_ ?k7; (case k1 => k_asm); (case k2 => k_mem); (case k3 => assumption); (case k4 => omega); (case k5 => omega); (case k6 => omega); (case k7 => with_unfolding_all rfl); k_whole; intro _ _ _ _ _ _ _ _ _ _) | (refine' item_flt ?k1 ?k2 ?k3 ?k4 ?k5 ?k6 ?_ ?k7; (case k1 => k_asm); (case k2 => k_mem); (case k3 => assumption); (case k4 => omega); (case k5 => omega); (case k6 => omega); (case k7 => with_unfolding_all rfl); k_whole; intro _ _ _))) <;> k_steps) | ((k_here; (with_reducible show wpAny _ _ (call (Value.ref 158) [_]) _ _ _); k_dflt (refine' light_c ?k1 ?k2 ?k3 ?k4 ?k5 ?kK ?kd ?ku ?hm ?ok ?_; (case k1 => k_asm); (case k2 => k_asm); (case k3 => k_asm); (case k4 => k_asm); (case k5 => k_asm); (case kK => first | exact rfl | assumption); (case kd => ktr_room); (case ku => ktr_units); (case hm => k_mem); (case ok => assumption)); (intro t9z h9z tk9z F9z N9z _); (try dsimp only); (try k_fold)) <;> k_steps)))
  all_goals exact cb_retI ret (by omega) (by k_asm) (by k_asm)
theorem bisL_key {vs : List Value} {kk i : Nat} {al : Addr} {x : UInt64} {tx t0 : Tok} (hl : (al, listO vs kk) ∈ news) (hn : vs.length ≤ 1000) (hi : i ≤ vs.length)
 (hc : ColsAre news vs fun j r g b => (Float64.cmp (hlsL r g b) x == some .lt) = decide (j < i))
 (ret : ∀ t h' tk', Fr h₀ L h' m → News h₀ L h' news → Q (.int i t) {s with heap := h', toks := tk'})
 : wpAny (model PySem.Challenge.rw_sc0103_01.row.prog w) (ktrTop dp un gd cn cs L a ccd cl outer) (call (.ref 57) [.ref al, .float x tx, .int 0 t0, .none] [(Str.ofString "key", .ref 158)]) Q E s := by
  k_with_none
  k_with "exec While Compare cons nil" => k_while (fun (_ : List Int) (lo hi : Int) => 0 ≤ lo ∧ lo ≤ (i : Int) ∧ (i : Int) ≤ hi ∧ hi ≤ (vs.length : Int)) (fun (_ : List Int) (lo hi : Int) => (hi - lo).toNat) "lo" "hi"
  refine wpAny_call ?_
  k_dflt (refine' code_def ?k1 ?k2 ?k3 ?k4 ?k5 ?kA ?kF ?kK ?k6 ?k7 ?k8 ?k9 ?kB ?_ ?c2 ?c3 ?c4 ?c5; (case kA => exact rfl); (case kF => exact rfl); (case kK => assumption); (case k1 => k_asm); (case k2 => k_asm); (case k3 => k_asm); (case k4 => k_asm); (case k5 => k_asm); (case k6 => k_is); (case k7 => k_is); (case k8 => ktr_room); (case k9 => first | exact BindsTo.of_eq rfl | exact binds_K (by k_in) rfl (by k_is) rfl rfl rfl | (refine' binds_KW ?x1 ?x2 ?x3 ?x4 ?x5 ?x6 ?x7 ?x8; (case x1 => k_in); (case x2 => exact rfl); (case x3 => k_is); (case x4 => exact rfl); (case x5 => exact rfl); (case x6 => exact rfl); (case x7 => k_is); (case x8 => exact rfl))); (case c5 => decide); (case kB => exact locs rfl); (case c2 => exact rfl); (case c3 => exact rfl); (case c4 => exact rfl); k_whole; intro g' L' h' FG' F' N' B' X' T'; (try dsimp only); (try k_fold))
  try ((show let A0z := _; let Q0z := _; let E0z := _; wpAny _ A0z _ Q0z E0z _); intro A0z Q0z E0z)
  (k_steps <;> repeat' (first | ((k_here; (with_reducible show wpAny _ _ (subscriptTail _ _ (Value.ref _) (Value.int _ _)) _ _ _); k_dflt (first | (refine' item_col ?k1 ?k2 ?k3 ?k4 ?k5 ?k6 ?_ ?k7; (case k1 => k_asm); (case k2 => k_mem); (case k3 => assumption); (case k4 => omega); (case k5 => omega); (case k6 => omega); (case k7 => with_unfolding_all rfl); k_whole; intro _ _ _ _ _ _ _ _ _ _) | (refine' item_flt ?k1 ?k2 ?k3 ?k4 ?k5 ?k6 ?_ ?k7; (case k1 => k_asm); (case k2 => k_mem); (case k3 => assumption); (case k4 => omega); (case k5 => omega); (case k6 => omega); (case k7 => with_unfolding_all rfl); k_whole; intro _ _ _))) <;> k_steps) | ((k_here; (with_reducible show wpAny _ _ (call (Value.ref 158) [_]) _ _ _); k_dflt (refine' light_c ?k1 ?k2 ?k3 ?k4 ?k5 ?kK ?kd ?ku ?hm ?ok ?_; (case k1 => k_asm); (case k2 => k_asm); (case k3 => k_asm); (case k4 => k_asm); (case k5 => k_asm); (case kK => first | exact rfl | assumption); (case kd => ktr_room); (case ku => ktr_units); (case hm => k_mem); (case ok => assumption)); (intro t9z h9z tk9z F9z N9z _); (try dsimp only); (try k_fold)) <;> k_steps)))
  all_goals exact cb_retI ret (by omega) (by k_asm) (by k_asm)
theorem bisR_flt {vs : List Value} {kk i : Nat} {al : Addr} {x : UInt64} {tx : Tok} (hl : (al, listO vs kk) ∈ news) (hn : vs.length ≤ 1000) (hi : i ≤ vs.length)
 (hc : FltsAre vs fun j y => (Float64.cmp x y == some .lt) = decide (i ≤ j))
 (ret : ∀ t h' tk', Fr h₀ L h' m → News h₀ L h' news → Q (.int i t) {s with heap := h', toks := tk'})
 : wpAny (model PySem.Challenge.rw_sc0103_01.row.prog w) (ktrTop dp un gd cn cs L a ccd cl outer) (call (.ref 39) [.ref al, .float x tx]) Q E s := by
  k_with_none
  k_with "exec While Compare cons nil" => k_while (fun (_ : List Int) (lo hi : Int) => 0 ≤ lo ∧ lo ≤ (i : Int) ∧ (i : Int) ≤ hi ∧ hi ≤ (vs.length : Int)) (fun (_ : List Int) (lo hi : Int) => (hi - lo).toNat) "lo" "hi"
  refine wpAny_call ?_
  k_dflt (refine' code_def ?k1 ?k2 ?k3 ?k4 ?k5 ?kA ?kF ?kK ?k6 ?k7 ?k8 ?k9 ?kB ?_ ?c2 ?c3 ?c4 ?c5; (case kA => exact rfl); (case kF => exact rfl); (case kK => assumption); (case k1 => k_asm); (case k2 => k_asm); (case k3 => k_asm); (case k4 => k_asm); (case k5 => k_asm); (case k6 => k_is); (case k7 => k_is); (case k8 => ktr_room); (case k9 => first | exact BindsTo.of_eq rfl | exact binds_K (by k_in) rfl (by k_is) rfl rfl rfl | (refine' binds_KW ?x1 ?x2 ?x3 ?x4 ?x5 ?x6 ?x7 ?x8; (case x1 => k_in); (case x2 => exact rfl); (case x3 => k_is); (case x4 => exact rfl); (case x5 => exact rfl); (case x6 => exact rfl); (case x7 => k_is); (case x8 => exact rfl))); (case c5 => decide); (case kB => exact locs rfl); (case c2 => exact rfl); (case c3 => exact rfl); (case c4 => exact rfl); k_whole; intro g' L' h' FG' F' N' B' X' T'; (try dsimp only); (try k_fold))
  try ((show let A0z := _; let Q0z := _; let E0z := _; wpAny _ A0z _ Q0z E0z _); intro A0z Q0z E0z)
  (k_steps <;> repeat' (first | ((k_here; (with_reducible show wpAny _ _ (subscriptTail _ _ (Value.ref _) (Value.int _ _)) _ _ _); k_dflt (first | (refine' item_col ?k1 ?k2 ?k3 ?k4 ?k5 ?k6 ?_ ?k7; (case k1 => k_asm); (case k2 => k_mem); (case k3 => assumption); (case k4 => omega); (case k5 => omega); (case k6 => omega); (case k7 => with_unfolding_all rfl); k_whole; intro _ _ _ _ _ _ _ _ _ _) | (refine' item_flt ?k1 ?k2 ?k3 ?k4 ?k5 ?k6 ?_ ?k7; (case k1 => k_asm); (case k2 => k_mem); (case k3 => assumption); (case k4 => omega); (case k5 => omega); (case k6 => omega); (case k7 => with_unfolding_all rfl); k_whole; intro _ _ _))) <;> k_steps) | ((k_here; (with_reducible show wpAny _ _ (call (Value.ref 158) [_]) _ _ _); k_dflt (refine' light_c ?k1 ?k2 ?k3 ?k4 ?k5 ?kK ?kd ?ku ?hm ?ok ?_; (case k1 => k_asm); (case k2 => k_asm); (case k3 => k_asm); (case k4 => k_asm); (case k5 => k_asm); (case kK => first | exact rfl | assumption); (case kd => ktr_room); (case ku => ktr_units); (case hm => k_mem); (case ok => assumption)); (intro t9z h9z tk9z F9z N9z _); (try dsimp only); (try k_fold)) <;> k_steps)))
  all_goals exact cb_retI ret (by omega) (by k_asm) (by k_asm)
theorem bisL_flt {vs : List Value} {kk i : Nat} {al : Addr} {x : UInt64} {tx : Tok} (hl : (al, listO vs kk) ∈ news) (hn : vs.length ≤ 1000) (hi : i ≤ vs.length)
 (hc : FltsAre vs fun j y => (Float64.cmp y x == some .lt) = decide (j < i))
 (ret : ∀ t h' tk', Fr h₀ L h' m → News h₀ L h' news → Q (.int i t) {s with heap := h', toks := tk'})
 : wpAny (model PySem.Challenge.rw_sc0103_01.row.prog w) (ktrTop dp un gd cn cs L a ccd cl outer) (call (.ref 57) [.ref al, .float x tx]) Q E s := by
  k_with_none
  k_with "exec While Compare cons nil" => k_while (fun (_ : List Int) (lo hi : Int) => 0 ≤ lo ∧ lo ≤ (i : Int) ∧ (i : Int) ≤ hi ∧ hi ≤ (vs.length : Int)) (fun (_ : List Int) (lo hi : Int) => (hi - lo).toNat) "lo" "hi"
  refine wpAny_call ?_
  k_dflt (refine' code_def ?k1 ?k2 ?k3 ?k4 ?k5 ?kA ?kF ?kK ?k6 ?k7 ?k8 ?k9 ?kB ?_ ?c2 ?c3 ?c4 ?c5; (case kA => exact rfl); (case kF => exact rfl); (case kK => assumption); (case k1 => k_asm); (case k2 => k_asm); (case k3 => k_asm); (case k4 => k_asm); (case k5 => k_asm); (case k6 => k_is); (case k7 => k_is); (case k8 => ktr_room); (case k9 => first | exact BindsTo.of_eq rfl | exact binds_K (by k_in) rfl (by k_is) rfl rfl rfl | (refine' binds_KW ?x1 ?x2 ?x3 ?x4 ?x5 ?x6 ?x7 ?x8; (case x1 => k_in); (case x2 => exact rfl); (case x3 => k_is); (case x4 => exact rfl); (case x5 => exact rfl); (case x6 => exact rfl); (case x7 => k_is); (case x8 => exact rfl))); (case c5 => decide); (case kB => exact locs rfl); (case c2 => exact rfl); (case c3 => exact rfl); (case c4 => exact rfl); k_whole; intro g' L' h' FG' F' N' B' X' T'; (try dsimp only); (try k_fold))
  try ((show let A0z := _; let Q0z := _; let E0z := _; wpAny _ A0z _ Q0z E0z _); intro A0z Q0z E0z)
  (k_steps <;> repeat' (first | ((k_here; (with_reducible show wpAny _ _ (subscriptTail _ _ (Value.ref _) (Value.int _ _)) _ _ _); k_dflt (first | (refine' item_col ?k1 ?k2 ?k3 ?k4 ?k5 ?k6 ?_ ?k7; (case k1 => k_asm); (case k2 => k_mem); (case k3 => assumption); (case k4 => omega); (case k5 => omega); (case k6 => omega); (case k7 => with_unfolding_all rfl); k_whole; intro _ _ _ _ _ _ _ _ _ _) | (refine' item_flt ?k1 ?k2 ?k3 ?k4 ?k5 ?k6 ?_ ?k7; (case k1 => k_asm); (case k2 => k_mem); (case k3 => assumption); (case k4 => omega); (case k5 => omega); (case k6 => omega); (case k7 => with_unfolding_all rfl); k_whole; intro _ _ _))) <;> k_steps) | ((k_here; (with_reducible show wpAny _ _ (call (Value.ref 158) [_]) _ _ _); k_dflt (refine' light_c ?k1 ?k2 ?k3 ?k4 ?k5 ?kK ?kd ?ku ?hm ?ok ?_; (case k1 => k_asm); (case k2 => k_asm); (case k3 => k_asm); (case k4 => k_asm); (case k5 => k_asm); (case kK => first | exact rfl | assumption); (case kd => ktr_room); (case ku => ktr_units); (case hm => k_mem); (case ok => assumption)); (intro t9z h9z tk9z F9z N9z _); (try dsimp only); (try k_fold)) <;> k_steps)))
  all_goals exact cb_retI ret (by omega) (by k_asm) (by k_asm)
end
end Mine

end PartPBis
section DryPIns
local macro_rules | `(tactic| walk_at "z0") => `(tactic| skip)
theorem Mine.offPIns : True := by
  w_top off
  k_with_none
  try walk1
  trivial
end DryPIns
section PartPIns
open PySem PySem.W PyProof.Rows
set_option maxRecDepth 100000
set_option maxHeartbeats 8000000
set_option linter.unusedSectionVars false
open PySem.Flt
namespace Mine

theorem fits_index {x : Int} (h0 : 0 ≤ x) (h1 : x < 2 ^ 40) : Builtin.List.listFitsIndex x = true := by
  unfold Builtin.List.listFitsIndex
  simp
  omega
theorem ins_room {vs : List Value} (hn : vs.length ≤ 1000) : vs.toArray.toList.length ≤ sizeLine := by
  rw [PySem.sizeLine_eq]
  show vs.length ≤ _
  omega
theorem ins_at {vs : List Value} {i : Nat} {y : Value} (hi : i ≤ vs.length) : kl_ins vs.toArray.toList (i : Int) y = vs.take i ++ y :: vs.drop i := by
  unfold kl_ins
  rw [if_neg (by omega)]
  have e : min (i : Int).toNat vs.toArray.toList.length = i := by
    rw [Int.toNat_natCast]
    show min i vs.length = i
    omega
  rw [e]
section
variable {w : World} {mean : ExcName → Option Value} {mg mb : Str → Option Value} {dp un : Nat} {gd : Option (List Code)} {cn : Str} {cs : Scope} {a : Addr} {ccd : Value} {cl : List (Str × Addr)} {outer : List Env} {A₀ : Around} {base h₀ : Heap} {L : Addr} {m : Str → Option Value} {news : List (Addr × Obj)} {s : Shared} {Q E : Value → Shared → Prop}
 (B : Below A₀ base outer h₀) (F : Fr h₀ L s.heap m) (X : (Mine.hd.heap_1 w.params).In h₀) (N : News h₀ L s.heap news)
 (T : Top Mine.hd.view_1 (looseW Mine.hd.view_1 [Str.ofString "insort_right", Str.ofString "bisect_right", Str.ofString "insort_left", Str.ofString "bisect_left", Str.ofString "Whitespace"]) mean mg mb h₀) (hk : cs.kind = .function) (hd : dp + 4 < recursionLimit) (hu : un + 32 < cLine)
include B F X N T hk hd hu

theorem insR {vs : List Value} {kk i : Nat} {al c : Addr} {r g b : UInt64} {tr tg tb : Tok} {news' : List (Addr × Obj)} (hl : (al, listO vs kk) ∈ news) (hm : (c, tupO [.float r tr, .float g tg, .float b tb]) ∈ news) (ok : colOk r g b) (hn : vs.length ≤ 1000) (hi : i ≤ vs.length)
 (hc : ColsAre news vs fun j r' g' b' => (Float64.cmp (hlsL r g b) (hlsL r' g' b') == some .lt) = decide (i ≤ j))
 (U : Upd al (listO vs kk) (listO (vs.take i ++ .ref c :: vs.drop i) (kk + 1)) news news')
 (ret : ∀ h' tk', Fr h₀ L h' m → News h₀ L h' news' → Q .none {s with heap := h', toks := tk'})
 : wpAny (model PySem.Challenge.rw_sc0103_01.row.prog w) (ktrTop dp un gd cn cs L a ccd cl outer) (call (.ref 30) [.ref al, .ref c] [(Str.ofString "key", .ref 158)]) Q E s := by
  refine wpAny_call ?_
  k_dflt (refine' code_def ?k1 ?k2 ?k3 ?k4 ?k5 ?kA ?kF ?kK ?k6 ?k7 ?k8 ?k9 ?kB ?_ ?c2 ?c3 ?c4 ?c5; (case kA => exact rfl); (case kF => exact rfl); (case kK => assumption); (case k1 => k_asm); (case k2 => k_asm); (case k3 => k_asm); (case k4 => k_asm); (case k5 => k_asm); (case k6 => k_is); (case k7 => k_is); (case k8 => ktr_room); (case k9 => first | exact BindsTo.of_eq rfl | exact binds_K (by k_in) rfl (by k_is) rfl rfl rfl | (refine' binds_KW ?x1 ?x2 ?x3 ?x4 ?x5 ?x6 ?x7 ?x8; (case x1 => k_in); (case x2 => exact rfl); (case x3 => k_is); (case x4 => exact rfl); (case x5 => exact rfl); (case x6 => exact rfl); (case x7 => k_is); (case x8 => exact rfl))); (case c5 => decide); (case kB => exact locs rfl); (case c2 => exact rfl); (case c3 => exact rfl); (case c4 => exact rfl); k_whole; intro g' L' h' FG' F' N' B' X' T'; (try dsimp only); (try k_fold))
  try ((show let A0z := _; let Q0z := _; let E0z := _; wpAny _ A0z _ Q0z E0z _); intro A0z Q0z E0z)
  (k_steps <;> repeat' (first | ((k_here; (with_reducible show wpAny _ _ (getMethod (Value.ref _) (PySem.Str.ofString "insert") _) _ _ _); k_dflt (refine' kl_method ?N ?m PySem.F.slot_list_insert PySem.F.type_list_insert ?_; (case N => k_asm); (case m => assumption))) <;> k_steps) | ((k_here; (with_reducible show wpAny _ _ (call (Value.builtin _) [Value.ref _, Value.int _ _, _]) _ _ _); k_dflt (refine' kl_insert ?F ?N ?f ?e ?U ?z ?_; (case F => k_asm); (case N => k_asm); (case U => assumption); (case f => exact fits_index (by omega) (by omega)); (case e => exact ins_at (by assumption)); (case z => exact ins_room (by assumption))); intro h9z F9z N9z; (try dsimp only)) <;> k_steps) | ((k_here; (with_reducible show wpAny _ _ (call (Value.ref 57) [_, _, _, _] _) _ _ _); k_dflt (refine' bisL_key ?k1 ?k2 ?k3 ?k4 ?k5 ?kK ?kd ?ku ?hl ?hn ?hi ?hc ?_; (case k1 => k_asm); (case k2 => k_asm); (case k3 => k_asm); (case k4 => k_asm); (case k5 => k_asm); (case kK => first | exact rfl | assumption); (case kd => ktr_room); (case ku => ktr_units); (case hl => assumption); (case hn => assumption); (case hi => assumption); (case hc => assumption)); (intro t9z h9z tk9z F9z N9z); (try dsimp only); (try k_fold)) <;> k_steps) | ((k_here; (with_reducible show wpAny _ _ (call (Value.ref 39) [_, _, _, _] _) _ _ _); k_dflt (refine' bisR_key ?k1 ?k2 ?k3 ?k4 ?k5 ?kK ?kd ?ku ?hl ?hn ?hi ?hc ?_; (case k1 => k_asm); (case k2 => k_asm); (case k3 => k_asm); (case k4 => k_asm); (case k5 => k_asm); (case kK => first | exact rfl | assumption); (case kd => ktr_room); (case ku => ktr_units); (case hl => assumption); (case hn => assumption); (case hi => assumption); (case hc => assumption)); (intro t9z h9z tk9z F9z N9z); (try dsimp only); (try k_fold)) <;> k_steps) | ((k_here; (with_reducible show wpAny _ _ (call (Value.ref 158) [_]) _ _ _); k_dflt (refine' light_c ?k1 ?k2 ?k3 ?k4 ?k5 ?kK ?kd ?ku ?hm ?ok ?_; (case k1 => k_asm); (case k2 => k_asm); (case k3 => k_asm); (case k4 => k_asm); (case k5 => k_asm); (case kK => first | exact rfl | assumption); (case kd => ktr_room); (case ku => ktr_units); (case hm => k_mem); (case ok => assumption)); (intro t9z h9z tk9z F9z N9z _); (try dsimp only); (try k_fold)) <;> k_steps)))
  all_goals exact ret _ _ (by k_asm) (by k_asm)

theorem insL {vs : List Value} {kk i : Nat} {al c : Addr} {r g b : UInt64} {tr tg tb : Tok} {news' : List (Addr × Obj)} (hl : (al, listO vs kk) ∈ news) (hm : (c, tupO [.float r tr, .float g tg, .float b tb]) ∈ news) (ok : colOk r g b) (hn : vs.length ≤ 1000) (hi : i ≤ vs.length)
 (hc : ColsAre news vs fun j r' g' b' => (Float64.cmp (hlsL r' g' b') (hlsL r g b) == some .lt) = decide (j < i))
 (U : Upd al (listO vs kk) (listO (vs.take i ++ .ref c :: vs.drop i) (kk + 1)) news news')
 (ret : ∀ h' tk', Fr h₀ L h' m → News h₀ L h' news' → Q .none {s with heap := h', toks := tk'})
 : wpAny (model PySem.Challenge.rw_sc0103_01.row.prog w) (ktrTop dp un gd cn cs L a ccd cl outer) (call (.ref 48) [.ref al, .ref c] [(Str.ofString "key", .ref 158)]) Q E s := by
  refine wpAny_call ?_
  k_dflt (refine' code_def ?k1 ?k2 ?k3 ?k4 ?k5 ?kA ?kF ?kK ?k6 ?k7 ?k8 ?k9 ?kB ?_ ?c2 ?c3 ?c4 ?c5; (case kA => exact rfl); (case kF => exact rfl); (case kK => assumption); (case k1 => k_asm); (case k2 => k_asm); (case k3 => k_asm); (case k4 => k_asm); (case k5 => k_asm); (case k6 => k_is); (case k7 => k_is); (case k8 => ktr_room); (case k9 => first | exact BindsTo.of_eq rfl | exact binds_K (by k_in) rfl (by k_is) rfl rfl rfl | (refine' binds_KW ?x1 ?x2 ?x3 ?x4 ?x5 ?x6 ?x7 ?x8; (case x1 => k_in); (case x2 => exact rfl); (case x3 => k_is); (case x4 => exact rfl); (case x5 => exact rfl); (case x6 => exact rfl); (case x7 => k_is); (case x8 => exact rfl))); (case c5 => decide); (case kB => exact locs rfl); (case c2 => exact rfl); (case c3 => exact rfl); (case c4 => exact rfl); k_whole; intro g' L' h' FG' F' N' B' X' T'; (try dsimp only); (try k_fold))
  try ((show let A0z := _; let Q0z := _; let E0z := _; wpAny _ A0z _ Q0z E0z _); intro A0z Q0z E0z)
  (k_steps <;> repeat' (first | ((k_here; (with_reducible show wpAny _ _ (getMethod (Value.ref _) (PySem.Str.ofString "insert") _) _ _ _); k_dflt (refine' kl_method ?N ?m PySem.F.slot_list_insert PySem.F.type_list_insert ?_; (case N => k_asm); (case m => assumption))) <;> k_steps) | ((k_here; (with_reducible show wpAny _ _ (call (Value.builtin _) [Value.ref _, Value.int _ _, _]) _ _ _); k_dflt (refine' kl_insert ?F ?N ?f ?e ?U ?z ?_; (case F => k_asm); (case N => k_asm); (case U => assumption); (case f => exact fits_index (by omega) (by omega)); (case e => exact ins_at (by assumption)); (case z => exact ins_room (by assumption))); intro h9z F9z N9z; (try dsimp only)) <;> k_steps) | ((k_here; (with_reducible show wpAny _ _ (call (Value.ref 57) [_, _, _, _] _) _ _ _); k_dflt (refine' bisL_key ?k1 ?k2 ?k3 ?k4 ?k5 ?kK ?kd ?ku ?hl ?hn ?hi ?hc ?_; (case k1 => k_asm); (case k2 => k_asm); (case k3 => k_asm); (case k4 => k_asm); (case k5 => k_asm); (case kK => first | exact rfl | assumption); (case kd => ktr_room); (case ku => ktr_units); (case hl => assumption); (case hn => assumption); (case hi => assumption); (case hc => assumption)); (intro t9z h9z tk9z F9z N9z); (try dsimp only); (try k_fold)) <;> k_steps) | ((k_here; (with_reducible show wpAny _ _ (call (Value.ref 39) [_, _, _, _] _) _ _ _); k_dflt (refine' bisR_key ?k1 ?k2 ?k3 ?k4 ?k5 ?kK ?kd ?ku ?hl ?hn ?hi ?hc ?_; (case k1 => k_asm); (case k2 => k_asm); (case k3 => k_asm); (case k4 => k_asm); (case k5 => k_asm); (case kK => first | exact rfl | assumption); (case kd => ktr_room); (case ku => ktr_units); (case hl => assumption); (case hn => assumption); (case hi => assumption); (case hc => assumption)); (intro t9z h9z tk9z F9z N9z); (try dsimp only); (try k_fold)) <;> k_steps) | ((k_here; (with_reducible show wpAny _ _ (call (Value.ref 158) [_]) _ _ _); k_dflt (refine' light_c ?k1 ?k2 ?k3 ?k4 ?k5 ?kK ?kd ?ku ?hm ?ok ?_; (case k1 => k_asm); (case k2 => k_asm); (case k3 => k_asm); (case k4 => k_asm); (case k5 => k_asm); (case kK => first | exact rfl | assumption); (case kd => ktr_room); (case ku => ktr_units); (case hm => k_mem); (case ok => assumption)); (intro t9z h9z tk9z F9z N9z _); (try dsimp only); (try k_fold)) <;> k_steps)))
  all_goals exact ret _ _ (by k_asm) (by k_asm)

end
end Mine

end PartPIns
section PartPComp
open PySem PySem.W PyProof.Rows PySem.Calls PySem.Spec
set_option maxRecDepth 100000
set_option maxHeartbeats 8000000
set_option linter.unusedSectionVars false
namespace Mine
noncomputable def Hold (P : Prop) : Prop := P
theorem Hold.of {P : Prop} (h : Hold P) : P := h
theorem Hold.out {P : Prop} (h : P) : Hold P := h
open PyProof.Rows.LCg (NsObj lst lst_snoc ns_obj)
section
variable {prog : Program} {w : World} {A : Around} {E : Value → Shared → Prop} {s : Shared} {h₀ : Heap} {L : Addr} {m : Str → Option Value} {env : Env} {news : List (Addr × Obj)}
theorem lotg {M : Model} {target : Expr} {I ax : Addr} {i : Nat} {v : Value} {Q : Unit → Shared → Prop} (hI : s.heap.IsListIter I ax i) (h : Q () s) : wpAny M A (letOwnedTupleGo target (.ref I) v) Q E s := by
  obtain ⟨o, ho, hc, hd⟩ := hI
  have go : wpAny M A (match (Value.ref I), v with
    | .ref r, .ref a => (load r >>= fun o => match o.cls, o.data with
      | .type n, .fields vs => if (["enumerate", "zip", "dict_itemiterator", "dict_reverseitemiterator", "odict_iterator", "itertools.zip_longest", "itertools.pairwise"].contains n && vs[0]? == some (rawInt a)) = true then (rule "for.unpacks-the-owned-tuple" >>= fun _ => updateField r 0 .none) else pure ()
      | _, _ => pure ())
    | _, _ => pure ()) Q E s := by
    cases v <;> first
      | exact wpAny_pure h
      | skip
    refine wpAny_bind (wpAny_load ho ?_)
    rw [hc, hd]
    exact wpAny_pure h
  cases target <;> first
    | exact wpAny_pure h
    | (cases v <;> first | exact wpAny_pure h | exact go)

noncomputable def TurnEnd (h₀ : Heap) (L : Addr) (m : Str → Option Value) (s₁ : Shared) (led : List (Addr × Obj)) (R : Value → Prop) (y : Value) (s₂ : Shared) : Prop :=
  ∃ h' tk, s₂ = { s₁ with heap := h', toks := tk } ∧ Fr h₀ L h' m ∧ News h₀ L h' led ∧ R y
noncomputable def AsgOk (prog : Program) (w : World) (A : Around) (h₀ : Heap) (L : Addr) (env : Env) (target : Expr) (scope : Scope) (cl : List (Str × Addr)) (vs : List Value) (news : List (Addr × Obj)) (Asg : Value → (Str → Option Value) → Prop) : Prop :=
  ∀ (v : Value) (m₂ : Str → Option Value) (C : Addr) (s : Shared) (Q : Unit → Shared → Prop) (E : Value → Shared → Prop), v ∈ vs → s.heap.Ns C m₂ → News h₀ L s.heap news → (∀ p ∈ news, p.1 ≠ C) →
    (∀ h' tk' m₃, h'.Ns C m₃ → Asg v m₃ → (∀ b o, b ≠ C → s.heap.get? b = some o → h'.get? b = some o) → Q () { s with heap := h', toks := tk' }) → wpAny (model prog w) A (assign target (compEnvC scope cl C env) v) Q E s
noncomputable def TurnOk (prog : Program) (w : World) (A : Around) (h₀ : Heap) (L : Addr) (m : Str → Option Value) (env : Env) (elt : Expr) (scope : Scope) (cl : List (Str × Addr)) (s₁ : Shared) (vs : List Value) (news : List (Addr × Obj)) (Asg : Value → (Str → Option Value) → Prop) (R : Nat → Value → Prop) : Prop :=
  ∀ (j : Nat) (v : Value) (I : Addr) (oI : Obj) (C : Addr) (oC : Obj) (D : Addr) (ys : List Value) (m₂ : Str → Option Value) (h : Heap) (tk : Nat) (E' : Value → Shared → Prop), vs[j]? = some v → NsObj oC m₂ → Asg v m₂ → Fr h₀ L h m → News h₀ L h ((I, oI) :: (C, oC) :: (D, lst ys) :: news) → s₁.toks ≤ tk →
    wpAny (model prog w) A (eval elt (compEnvC scope cl C env)) (TurnEnd h₀ L m { s₁ with heap := h, toks := tk } ((I, oI) :: (C, oC) :: (D, lst ys) :: news) (R j)) E' { s₁ with heap := h, toks := tk }
noncomputable def Got (vs ys : List Value) (R : Nat → Value → Prop) : Prop := ys.length = vs.length ∧ ∀ j, j < vs.length → ∃ y, ys[j]? = some y ∧ R j y

theorem comp_core {elt target iter : Expr} {scope : Scope} {cl : List (Str × Addr)} {pos : Pos} {vs : List Value} {kk : Nat} {ax : Addr} {Asg : Value → (Str → Option Value) → Prop} {R : Nat → Value → Prop} {RR : Value → Addr → Result → Shared → Prop}
    (hh : A.handled = none) (hcell : ∀ y ∈ scope.names, y.2 ≠ .cell) (hkind : scope.kind = .function) (F : Fr h₀ L s.heap m) (N : News h₀ L s.heap news) (hax : (ax, ({ cls := .type "list", data := .seq vs.toArray kk } : Obj)) ∈ news) (hlen : vs.length ≤ 1000)
    (hasg : AsgOk prog w A h₀ L env target scope cl vs news Asg) (turn : TurnOk prog w A h₀ L m env elt scope cl s vs news Asg R)
    (hRR : ∀ D C h tk m' ys, Fr h₀ L h m → News h₀ L h ((D, lst ys) :: news) → (∀ p ∈ news, p.1 < D) → h.Ns C m' → h₀.get? C = none → h₀.get? D = none → C ≠ L → D ≠ L → C ≠ D → (∀ p ∈ news, p.1 ≠ C) → Got vs ys R → s.toks ≤ tk → RR (.ref D) C (.ok .next) { s with heap := h, toks := tk }) :
    wpAny (model prog w) A (pyIter (.ref ax)) (fun it s₂ => wpAny (model prog w) A (newList []) (fun acc s₃ => wpAny (model prog w) A (newFunctionEnv scope env.globals cl [] env.qual none .none (some env)) (fun cenv s₄ =>
      codeAny (model prog w) A (.compStart (.ListComp elt [⟨target, iter, [], 0⟩] scope pos) 0 it acc { cenv with scope := relabel scope env }) (RR acc cenv.locals) s₄) E s₃) E s₂) E s := by
  have hls : s.heap.IsList ax vs.toArray := ⟨_, (N _ hax).1, rfl, _, rfl⟩
  have haxs : ax < s.heap.objs.size := Heap.lt_size (N _ hax).1
  refine wpAny_pyIter_list hls ?_
  refine wpAny_newObj_type (wpAny_newFunctionEnv hcell (by intro y hy; simp at hy) (fun h₁ hns₁ hsb₁ => ?_) hkind)
  dsimp only at hns₁ hsb₁ ⊢
  generalize hI : s.heap.objs.size = I at *
  generalize hH1 : s.heap.push { cls := .type "list_iterator", data := .fields #[.ref ax, .int 0 0] } = H1 at hns₁ hsb₁ ⊢
  have z1 : H1.objs.size = I + 1 := by rw [← hH1, Heap.size_push, hI]
  generalize hH2 : H1.push { cls := .type "list", dict := none, data := .seq ([] : List Value).toArray } = H2 at hns₁ hsb₁ ⊢
  have z2 : H2.objs.size = I + 2 := by rw [← hH2, Heap.size_push, z1]
  have old1 : ∀ b o, s.heap.get? b = some o → H1.get? b = some o := fun b o e => hH1 ▸ Heap.get?_push_of_some _ e
  have old2 : ∀ b o, H1.get? b = some o → H2.get? b = some o := fun b o e => hH2 ▸ Heap.get?_push_of_some _ e
  simp only [z1, z2] at hns₁ hsb₁ ⊢
  have old3 : ∀ b o, b ≠ I + 2 → H2.get? b = some o → h₁.get? b = some o := fun b o hb e => hsb₁.extBut b o hb (Heap.get?_push_of_some _ e)
  have below : ∀ b o, s.heap.get? b = some o → b < I := fun b o e => hI ▸ Heap.lt_size e
  have old : ∀ b o, s.heap.get? b = some o → h₁.get? b = some o := fun b o e => old3 b o (by have := below b o e; exact Nat.ne_of_lt (Nat.lt_of_lt_of_le this (Nat.le_add_right _ _))) (old2 b o (old1 b o e))
  have gI : h₁.IsListIter I ax 0 := ⟨_, old3 _ _ (Nat.ne_of_lt (Nat.lt_add_of_pos_right (by decide))) (old2 _ _ (by rw [← hH1, ← hI]; exact Heap.get?_push_size _ rfl)), rfl, rfl⟩
  have gD : h₁.get? (I + 1) = some (lst []) := old3 _ _ (Nat.ne_of_lt (Nat.lt_succ_self _)) (by rw [← hH2, ← z1]; show (H1.push (lst [])).get? _ = some (lst []); exact Heap.get?_push_size _ rfl)
  have none₀ : ∀ a, I ≤ a → h₀.get? a = none := fun a ha => by
    cases e : h₀.get? a with
    | none => rfl
    | some o => have q := below _ _ (F.keep a o e); exact absurd q (Nat.not_lt.mpr ha)
  have hLI : L < I := hI ▸ F.ns.lt
  have W := Walks.list (prog := prog) (w := w) hh I ax (Nat.ne_of_lt (hI ▸ haxs)) vs.toArray
  have hn : vs.toArray.size = vs.length := List.size_toArray ..
  have nlt : ∀ p ∈ news, p.1 < I := fun p hp => below _ _ (N p hp).1
  have nI : ∀ p ∈ news, p.1 ≠ I := fun p hp => Nat.ne_of_lt (nlt p hp)
  have nD : ∀ p ∈ news, p.1 ≠ I + 1 := fun p hp => Nat.ne_of_lt (Nat.lt_succ_of_lt (nlt p hp))
  have nC : ∀ p ∈ news, p.1 ≠ I + 2 := fun p hp => Nat.ne_of_lt (Nat.lt_succ_of_lt (Nat.lt_succ_of_lt (nlt p hp)))
  have ID : I ≠ I + 1 := Nat.ne_of_lt (Nat.lt_succ_self _)
  have IC : I ≠ I + 2 := Nat.ne_of_lt (Nat.lt_succ_of_lt (Nat.lt_succ_self _))
  have DC : I + 1 ≠ I + 2 := Nat.ne_of_lt (Nat.lt_succ_self _)
  have LnI : L ≠ I := Nat.ne_of_lt hLI
  have LnD : L ≠ I + 1 := Nat.ne_of_lt (Nat.lt_succ_of_lt hLI)
  have LnC : L ≠ I + 2 := Nat.ne_of_lt (Nat.lt_succ_of_lt (Nat.lt_succ_of_lt hLI))
  have isl : ∀ h, News h₀ L h news → h.IsList ax vs.toArray := fun h N' => ⟨_, (N' _ hax).1, rfl, _, rfl⟩
  have loop : codeAny (model prog w) A (.compLoop (.ListComp elt [⟨target, iter, [], 0⟩] scope pos) 0 (.ref I) (.ref (I + 1)) (compEnvC scope cl (I + 2) env)) (RR (.ref (I + 1)) (I + 2)) { s with heap := h₁, toks := s.toks + ([] : List (Str × Value)).length } := by
    refine kcp_loop (fun k s' => ∃ h' tk i ys m', s' = { s with heap := h', toks := tk } ∧ s.toks ≤ tk ∧ i ≤ vs.length ∧ k = vs.length + 1 - i ∧ ys.length = i ∧ h'.IsListIter I ax i ∧ Fr h₀ L h' m ∧ h'.Ns (I + 2) m' ∧ News h₀ L h' ((I + 1, lst ys) :: news) ∧
      ∀ j, j < i → ∃ y, ys[j]? = some y ∧ R j y) ?_ (vs.length + 1) ⟨h₁, _, 0, [], _, rfl, Nat.le_add_right _ _, Nat.zero_le _, rfl, rfl, gI, F.keeps old, hns₁, ?_, fun j hj => absurd hj (Nat.not_lt_zero _)⟩
    · rintro k s' ⟨h', tk, i, ys, m', rfl, htk, hi, rfl, hyl, gi, F', hC, N', got⟩
      have N'n : News h₀ L h' news := fun p hp => N' p (List.mem_cons_of_mem _ hp)
      by_cases hlt : i < vs.length
      · refine wpAny_toks s.toks htk (W.item i _ _ _ (by rw [hn]; exact hlt) ⟨gi, isl _ N'n⟩ fun v h₂ tk₂ hv st₂ hk₂ htk₂ => ?_)
        have hv' : vs[i]? = some v := by simpa using hv
        have k2 : ∀ b o, b ≠ I → h'.get? b = some o → h₂.get? b = some o := fun b o hb e => hk₂ b o (by simpa using hb) e
        have F₂ : Fr h₀ L h₂ m := ⟨F'.ns.at' fun o e => k2 _ o LnI e, fun b o e => k2 b o (fun q => by rw [q, none₀ I (Nat.le_refl _)] at e; cases e) (F'.keep b o e), F'.above⟩
        have N₂ : News h₀ L h₂ ((I + 1, lst ys) :: news) := fun p hp => ⟨k2 _ _ (by rcases List.mem_cons.mp hp with rfl | hp; exact Ne.symm ID; exact nI p hp) (N' p hp).1, (N' p hp).2⟩
        refine lotg st₂.1 ?_
        refine wpAny_toks s.toks htk₂ (hasg v _ (I + 2) _ _ _ (List.mem_of_getElem? hv') (hC.at' fun o e => k2 _ o (Ne.symm IC) e) (fun p hp => N₂ p (List.mem_cons_of_mem _ hp)) nC fun h₃ tk₃ m₃ hC₃ ha₃ hk₃ htk₃ => ?_)
        obtain ⟨oC, eC, hoC⟩ := ns_obj hC₃
        obtain ⟨oI, eI, cI, dI⟩ := st₂.1
        have F₃ : Fr h₀ L h₃ m := ⟨F₂.ns.at' fun o e => hk₃ _ o LnC e, fun b o e => hk₃ b o (fun q => by rw [q, none₀ (I + 2) (Nat.le_add_right _ _)] at e; cases e) (F₂.keep b o e), F₂.above⟩
        have N₃ : News h₀ L h₃ ((I, oI) :: (I + 2, oC) :: (I + 1, lst ys) :: news) := fun p hp => by
          rcases List.mem_cons.mp hp with rfl | hp
          · exact ⟨hk₃ _ _ IC eI, Ne.symm LnI, none₀ _ (Nat.le_refl _)⟩
          · rcases List.mem_cons.mp hp with rfl | hp
            · exact ⟨eC, Ne.symm LnC, none₀ _ (Nat.le_add_right _ _)⟩
            · refine ⟨hk₃ _ _ ?_ (N₂ p hp).1, (N₂ p hp).2⟩
              rcases List.mem_cons.mp hp with rfl | hp
              · exact DC
              · exact nC p hp
        refine wpAny_toks s.toks htk₃ (wpAny_mono (turn i v I oI (I + 2) oC (I + 1) ys m₃ h₃ tk₃ _ hv' hoC ha₃ F₃ N₃ htk₃) (fun y s₄ q htk₄ => ?_) fun _ _ e => e)
        obtain ⟨h₄, tk₄, rfl, F₄, N₄, hR⟩ := q
        have zI := (N₄ (I, oI) List.mem_cons_self).1
        have zC := (N₄ (I + 2, oC) (List.mem_cons_of_mem _ List.mem_cons_self)).1
        have zD := (N₄ (I + 1, lst ys) (List.mem_cons_of_mem _ (List.mem_cons_of_mem _ List.mem_cons_self))).1
        refine append_at (hsz := by show ys.toArray.size ≤ sizeLine; rw [List.size_toArray, hyl, PySem.sizeLine_eq]; omega) zD fun h₅ hs₅ hD₅ => ?_
        refine ⟨vs.length + 1 - (i + 1), by omega, h₅, tk₄, i + 1, ys ++ [y], _, rfl, htk₄, hlt, rfl, by rw [List.length_append, List.length_singleton, hyl], ⟨oI, hs₅.extBut _ _ ID zI, cI, dI⟩, F₄.change hs₅ (Ne.symm LnD) (none₀ _ (Nat.le_succ _)),
          (hoC.ns zC).sameBut hs₅ (Ne.symm DC), fun p hp => ?_, fun j hj => ?_⟩
        · rcases List.mem_cons.mp hp with rfl | hp
          · exact ⟨hD₅.trans (congrArg some (lst_snoc ys y)), Ne.symm LnD, none₀ _ (Nat.le_succ _)⟩
          · have z := N₄ p (List.mem_cons_of_mem _ (List.mem_cons_of_mem _ (List.mem_cons_of_mem _ hp)))
            exact ⟨hs₅.extBut _ _ (nD p hp) z.1, z.2⟩
        · by_cases hji : j < i
          · obtain ⟨y', e', r'⟩ := got j hji
            exact ⟨y', by rw [List.getElem?_append_left (by omega)]; exact e', r'⟩
          · obtain rfl : j = i := by omega
            exact ⟨y, by rw [List.getElem?_append_right (by omega), hyl, Nat.sub_self]; rfl, hR⟩
      · obtain rfl : i = vs.length := by omega
        refine wpAny_toks s.toks htk (W.done _ _ _ (by rw [hn]; exact ⟨gi, isl _ N'n⟩) fun h₂ tk₂ hk₂ htk₂ => ?_)
        have k2 : ∀ b o, b ≠ I → h'.get? b = some o → h₂.get? b = some o := fun b o hb e => hk₂ b o (by simpa using hb) e
        refine hRR (I + 1) (I + 2) h₂ tk₂ m' ys ⟨F'.ns.at' fun o e => k2 _ o LnI e, fun b o e => k2 b o (fun q => by rw [q, none₀ I (Nat.le_refl _)] at e; cases e) (F'.keep b o e), F'.above⟩
          (fun p hp => ⟨k2 _ _ (by rcases List.mem_cons.mp hp with rfl | hp; exact Ne.symm ID; exact nI p hp) (N' p hp).1, (N' p hp).2⟩) (fun p hp => Nat.lt_succ_of_lt (nlt p hp)) (hC.at' fun o e => k2 _ o (Ne.symm IC) e)
          (none₀ _ (Nat.le_add_right _ _)) (none₀ _ (Nat.le_succ _)) (Ne.symm LnC) (Ne.symm LnD) (Ne.symm DC) nC ⟨hyl, got⟩ htk₂
    · intro p hp
      rcases List.mem_cons.mp hp with rfl | hp
      · exact ⟨gD, Ne.symm LnD, none₀ _ (Nat.le_succ _)⟩
      · exact ⟨old _ _ (N p hp).1, (N p hp).2⟩
  exact codeAny_compStart_list loop (W.self 0 _ _ _ ⟨gI, isl _ fun p hp => ⟨old _ _ (N p hp).1, (N p hp).2⟩⟩ loop)

noncomputable def CSrc (prog : Program) (w : World) (A : Around) (h₀ : Heap) (L : Addr) (m : Str → Option Value) (env : Env) (target elt : Expr) (scope : Scope) (cl : List (Str × Addr)) (Fin : Shared → List (Addr × Obj) → List Value → Prop) (xv : Value) (s₁ : Shared) : Prop :=
  ∃ ax vs kk news Asg R, xv = .ref ax ∧ Fr h₀ L s₁.heap m ∧ News h₀ L s₁.heap news ∧ (ax, ({ cls := .type "list", data := .seq vs.toArray kk } : Obj)) ∈ news ∧ vs.length ≤ 1000 ∧ AsgOk prog w A h₀ L env target scope cl vs news Asg ∧
    TurnOk prog w A h₀ L m env elt scope cl s₁ vs news Asg R ∧ ∀ ys, Got vs ys R → Fin s₁ news ys
noncomputable def FinEx (h₀ : Heap) (L : Addr) (m : Str → Option Value) (Q : Value → Shared → Prop) (s₁ : Shared) (news : List (Addr × Obj)) (ys : List Value) : Prop :=
  ∀ D h tk, Fr h₀ L h m → News h₀ L h ((D, lst ys) :: news) → (∀ p ∈ news, p.1 < D) → s₁.toks ≤ tk → Q (.ref D) { s₁ with heap := h, toks := tk }
noncomputable def FinAs (h₀ : Heap) (L : Addr) (m : Str → Option Value) (y : Str) (Q : Flow → Shared → Prop) (s₁ : Shared) (news : List (Addr × Obj)) (ys : List Value) : Prop :=
  ∀ D h tk, Fr h₀ L h (fun z => if z = y then some (.ref D) else m z) → News h₀ L h ((D, lst ys) :: news) → (∀ p ∈ news, p.1 < D) → s₁.toks ≤ tk → Q .next { s₁ with heap := h, toks := tk }
theorem comp_E {elt target iter : Expr} {scope : Scope} {cl : List (Str × Addr)} {pos : Pos} {Q : Value → Shared → Prop} (_F₀ : Fr h₀ L s.heap m) (hh : A.handled = none)
    (hclos : closureFor scope env = pure cl) (hcell : ∀ y ∈ scope.names, y.2 ≠ .cell) (hkind : scope.kind = .function)
    (hnames : ∀ y ∈ scope.names, y.2 = .local → scope.names.lookup y.1 = some .local) (hs : ∀ x, foldedSetIterable iter env x = pure x)
    (h : wpAny (model prog w) A (eval iter env) (CSrc prog w A h₀ L m env target elt scope cl (FinEx h₀ L m Q)) E s) :
    wpAny (model prog w) A (eval (.ListComp elt [⟨target, iter, [], 0⟩] scope pos) env) Q E s := by
  rw [eval_ListComp]
  refine wpAny_comprehension_free (use := none) rfl hs hclos hkind hnames (wpAny_mono h (fun xv s₁ h₁ => ?_) fun _ _ e => e)
  obtain ⟨ax, vs, kk, news, Asg, R, rfl, F, N, hax, hlen, hasg, turn, fin⟩ := h₁
  refine comp_core hh hcell hkind F N hax hlen hasg turn ?_
  intro D C h tk m' ys F' N' lt hC hC₀ hD₀ hCL hDL hCD nC got htk
  refine ⟨m', hC, fun h'' hs'' => fin ys got D h'' tk (F'.change hs'' hCL hC₀) (fun p hp => ?_) lt htk⟩
  refine ⟨hs''.extBut _ _ ?_ (N' p hp).1, (N' p hp).2⟩
  rcases List.mem_cons.mp hp with rfl | hp
  · exact Ne.symm hCD
  · exact nC p hp
theorem comp_A {elt target iter : Expr} {y : Str} {py : Pos} {scope : Scope} {cl : List (Str × Addr)} {pos spos : Pos} {Q : Flow → Shared → Prop} (_F₀ : Fr h₀ L s.heap m) (hh : A.handled = none) (hLe : env.locals = L)
    (hsw : swapsWith (.ListComp elt [⟨target, iter, [], 0⟩] scope pos) (some (.Name y py)) spos.line env = pure true)
    (hclos : closureFor scope env = pure cl) (hcell : ∀ z ∈ scope.names, z.2 ≠ .cell) (hkind : scope.kind = .function)
    (hnames : ∀ z ∈ scope.names, z.2 = .local → scope.names.lookup z.1 = some .local) (hs : ∀ x, foldedSetIterable iter env x = pure x)
    (hy : env.kindOf y = some .local) (hp : (env.scope.kind == .class || (env.scope.kind == .module && env.locals != env.globals)) = false)
    (h : wpAny (model prog w) A (eval iter env) (CSrc prog w A h₀ L m env target elt scope cl (FinAs h₀ L m y Q)) E s) :
    wpAny (model prog w) A (exec (.Assign [.Name y py] (.ListComp elt [⟨target, iter, [], 0⟩] scope pos) spos) env) Q E s := by
  subst hLe
  rw [exec_Assign_Name_used _ _ _ _ hsw]
  refine wpAny_bind (wpAny_standAt (wpAny_bind ?_))
  show wpAny _ A (do let _ ← comprehension (.ListComp elt [⟨target, iter, [], 0⟩] scope pos) scope env _ (newList []) false (eval iter env) (some (assign (.Name y py) env))) _ _ s
  refine wpAny_bind (wpAny_mono (wpAny_comprehension_free (use := some (assign (.Name y py) env)) (Q := fun _ s' => Q .next s') rfl hs hclos hkind hnames
    (wpAny_mono h (fun xv s₁ h₁ => ?_) fun _ _ e => e)) (fun _ s' hq => wpAny_pure (wpAny_pure hq)) fun _ _ e => e)
  obtain ⟨ax, vs, kk, news, Asg, R, rfl, F, N, hax, hlen, hasg, turn, fin⟩ := h₁
  refine comp_core hh hcell hkind F N hax hlen hasg turn ?_
  intro D C h tk m' ys F' N' lt hC hC₀ hD₀ hCL hDL hCD nC got htk
  show wpAny _ A (assign (.Name y py) env (.ref D)) _ _ _
  refine wpAny_assign_Name (wpAny_storeName_local hy F'.ns (fun h₂ hn₂ hs₂ => ?_) hp)
  have hL₀ : h₀.get? env.locals = none := Heap.get?_none_of_le F'.above
  have F₂ : Fr h₀ env.locals h₂ (fun z => if z = y then some (.ref D) else m z) := ⟨hn₂, fun b o e => hs₂.extBut b o (fun q => by rw [q, hL₀] at e; cases e) (F'.keep b o e), F'.above⟩
  refine ⟨m', hC.sameBut hs₂ hCL, fun h'' hs'' => fin ys got D h'' _ (F₂.change hs'' hCL hC₀) (fun p hp => ?_) lt (Nat.le_trans htk (Nat.le_add_right _ _))⟩
  have z : h₂.get? p.1 = some p.2 := hs₂.extBut _ _ (N' p hp).2.1 (N' p hp).1
  refine ⟨hs''.extBut _ _ ?_ z, (N' p hp).2⟩
  rcases List.mem_cons.mp hp with rfl | hp
  · exact Ne.symm hCD
  · exact nC p hp

theorem asg_name {x : Str} {px : Pos} {scope : Scope} {cl : List (Str × Addr)} {vs : List Value} (hx : scope.names.lookup x = some .local) (hkind : scope.kind = .function) :
    AsgOk prog w A h₀ L env (.Name x px) scope cl vs news (fun v m => m x = some v) := by
  intro v m₂ C s Q E _ hC _ _ h
  refine wpAny_assign_Name (wpAny_storeName_local (lookup_relabel_local hx) hC (fun h₃ hn₃ hs₃ => ?_) (by simp [compEnvC, relabel, hkind]))
  exact h h₃ _ _ hn₃ (by simp) fun b o hb e => hs₃.extBut b o hb e
theorem asg_three {a b c : Str} {pa pb pc tp : Pos} {kk : Nat} {scope : Scope} {cl : List (Str × Addr)} {vs : List Value} (hh : A.handled = none) (ha : scope.names.lookup a = some .local) (hb : scope.names.lookup b = some .local) (hc : scope.names.lookup c = some .local)
    (hkind : scope.kind = .function) (hab : a ≠ b) (hac : a ≠ c) (hbc : b ≠ c) (T : Value → Value → Value → Value → Prop) (ht : ∀ v ∈ vs, ∃ t x y z, v = .ref t ∧ (t, ({ cls := .type "tuple", data := .seq #[x, y, z] } : Obj)) ∈ news ∧ T v x y z) :
    AsgOk prog w A h₀ L env (.Tuple [.Name a pa, .Name b pb, .Name c pc] kk tp) scope cl vs news (fun v m => ∃ x y z, T v x y z ∧ m a = some x ∧ m b = some y ∧ m c = some z) := by
  intro v m₂ C s Q E hv hC N _ h
  obtain ⟨t, x, y, z, rfl, hm, hT⟩ := ht v hv
  refine wpAny_assign_Tuple hh ⟨_, (N _ hm).1, rfl, _, rfl⟩ rfl rfl fun h₁ he₁ => ?_
  have hCs : C ≠ s.heap.objs.size := Nat.ne_of_lt hC.lt
  have hn₁ : h₁.Ns C m₂ := hC.at' fun o e => he₁ _ o hCs e
  have up₁ : ∀ d o, s.heap.get? d = some o → h₁.get? d = some o := fun d o e => he₁ d o (Nat.ne_of_lt (Heap.lt_size e)) e
  have hp : ((compEnvC scope cl C env).scope.kind == .class || ((compEnvC scope cl C env).scope.kind == .module && (compEnvC scope cl C env).locals != (compEnvC scope cl C env).globals)) = false := by simp [compEnvC, relabel, hkind]
  show wpAny _ _ (assignInOrder [assign (.Name a pa) _, assign (.Name b pb) _, assign (.Name c pc) _] [x, y, z]) _ _ _
  refine assignInOrder_cons (wpAny_assign_Name (wpAny_storeName_local (lookup_relabel_local ha) hn₁ (fun h₂ hn₂ hs₂ => ?_) hp))
  refine assignInOrder_cons (wpAny_assign_Name (wpAny_storeName_local (lookup_relabel_local hb) hn₂ (fun h₃ hn₃ hs₃ => ?_) hp))
  refine assignInOrder_cons (wpAny_assign_Name (wpAny_storeName_local (lookup_relabel_local hc) hn₃ (fun h₄ hn₄ hs₄ => ?_) hp))
  refine assignInOrder_nil (h h₄ _ _ hn₄ ⟨x, y, z, hT, ?_, ?_, ?_⟩ fun d o hd e => hs₄.extBut d o hd (hs₃.extBut d o hd (hs₂.extBut d o hd (up₁ d o e))))
  · simp [hab, hac]
  · simp [hbc]
  · simp
end
end Mine

end PartPComp
section DryPHue
local macro_rules | `(tactic| walk_at "z0") => `(tactic| skip)
theorem Mine.offPHue : True := by
  w_top off
  k_with_none
  try walk1
  trivial
end DryPHue
section PartPHue
open PySem PySem.W PyProof.Rows
set_option maxRecDepth 100000
set_option maxHeartbeats 8000000
set_option linter.unusedSectionVars false
open PySem.Flt
namespace Mine
open PyProof.Rows.LCg (NsObj lst lst_snoc ns_obj)
local macro_rules | `(tactic| walk_at "execs cons") => `(tactic| (k_here; (with_reducible show wpAny _ _ _ _ _ (Shared.mk _ _ _ (_ + _) _)); refine tk_gen ?_; intro _ _))
local macro_rules | `(tactic| walk_at "execs nil") => `(tactic| (k_here; (with_reducible show wpAny _ _ _ _ _ (Shared.mk _ _ _ (_ + _) _)); refine tk_gen ?_; intro _ _))
local macro_rules | `(tactic| walk_at "eval ListComp") => `(tactic| (k_here; k_dflt (refine comp_E (by k_asm) rfl (by with_unfolding_all rfl) (by decide) (by rfl) (by decide) (by intro _; with_unfolding_all rfl) ?_)))
section
variable {w : World} {mean : ExcName → Option Value} {mg mb : Str → Option Value} {dp un : Nat} {gd : Option (List Code)} {cn : Str} {cs : Scope} {a : Addr} {ccd : Value} {cl : List (Str × Addr)} {outer : List Env} {A₀ : Around} {base h₀ : Heap} {L : Addr} {m : Str → Option Value} {news : List (Addr × Obj)} {s : Shared} {Q E : Value → Shared → Prop}
 (B : Below A₀ base outer h₀) (F : Fr h₀ L s.heap m) (X : (Mine.hd.heap_1 w.params).In h₀) (N : News h₀ L s.heap news)
 (T : Top Mine.hd.view_1 (looseW Mine.hd.view_1 [Str.ofString "insort_right", Str.ofString "bisect_right", Str.ofString "insort_left", Str.ofString "bisect_left", Str.ofString "Whitespace"]) mean mg mb h₀) (hk : cs.kind = .function) (hd : dp + 3 < recursionLimit) (hu : un + 24 < cLine)
include B F X N T hk hd hu

theorem hues_c {vs : List Value} {kk : Nat} {al : Addr} {R : Nat → UInt64 → UInt64 → UInt64 → Prop} (hl : (al, listO vs kk) ∈ news) (hn : vs.length ≤ 1000) (hc : ColsAre news vs R)
 (ret : ∀ D ys h' tk', Fr h₀ L h' m → News h₀ L h' ((D, lst ys) :: news) → (∀ p ∈ news, p.1 < D) → Got vs ys (fun j y => ∃ t r g b, y = .float (hsvH r g b) t ∧ s.toks ≤ t ∧ R j r g b) → Q (.ref D) {s with heap := h', toks := tk'})
 : wpAny (model PySem.Challenge.rw_sc0103_01.row.prog w) (ktrTop dp un gd cn cs L a ccd cl outer) (call (.ref 163) [.ref al]) Q E s := by
  refine wpAny_call ?_
  k_dflt (refine' code_def ?k1 ?k2 ?k3 ?k4 ?k5 ?kA ?kF ?kK ?k6 ?k7 ?k8 ?k9 ?kB ?_ ?c2 ?c3 ?c4 ?c5; (case kA => exact rfl); (case kF => exact rfl); (case kK => assumption); (case k1 => k_asm); (case k2 => k_asm); (case k3 => k_asm); (case k4 => k_asm); (case k5 => k_asm); (case k6 => k_is); (case k7 => k_is); (case k8 => ktr_room); (case k9 => first | exact BindsTo.of_eq rfl | exact binds_K (by k_in) rfl (by k_is) rfl rfl rfl | (refine' binds_KW ?x1 ?x2 ?x3 ?x4 ?x5 ?x6 ?x7 ?x8; (case x1 => k_in); (case x2 => exact rfl); (case x3 => k_is); (case x4 => exact rfl); (case x5 => exact rfl); (case x6 => exact rfl); (case x7 => k_is); (case x8 => exact rfl))); (case c5 => decide); (case kB => exact locs rfl); (case c2 => exact rfl); (case c3 => exact rfl); (case c4 => exact rfl); k_whole; intro g' L' h' FG' F' N' B' X' T'; (try dsimp only); (try k_fold))
  try ((show let A0z := _; let Q0z := _; let E0z := _; wpAny _ A0z _ Q0z E0z _); intro A0z Q0z E0z)
  (k_steps <;> repeat' (first | ((k_here; (with_reducible show wpAny _ _ (call (Value.ref 71) [_, _, _]) _ _ _); k_dflt (refine' hsv_c ?k1 ?k2 ?k3 ?k4 ?k5 ?kK ?kd ?ku ?ok ?_; (case k1 => k_asm); (case k2 => k_asm); (case k3 => k_asm); (case k4 => k_asm); (case k5 => k_asm); (case kK => first | exact rfl | assumption); (case kd => ktr_room); (case ku => ktr_units); (case ok => assumption)); (intro t9z t8 t7 h9z tk9z a9z x9z z9z F9z N9z l9z q9z); (try dsimp only); (try k_fold)) <;> k_steps)))
  refine ⟨_, _, _, _, _, (fun j y => ∃ t r g b, y = .float (hsvH r g b) t ∧ s.toks ≤ t ∧ R j r g b), rfl, by k_asm, by k_asm, by k_mem, hn, asg_name (by rfl) (by rfl), ?turn, ?fin⟩
  case turn =>
    intro j v I oI C oC D ys m₂ h tk E' hv hC hA F9 N9 htk
    obtain ⟨c, t1, t2, t3, r, g, b, e, hm, ok, hR⟩ := hc j (by rcases List.getElem?_eq_some_iff.mp hv with ⟨q, _⟩; exact q)
    rw [hv] at e; cases e
    have hm9 := List.mem_cons_of_mem (I, oI) (List.mem_cons_of_mem (C, oC) (List.mem_cons_of_mem (D, lst ys) hm))
    clear hm
    try ((show let A0z := _; let Q0z := _; let E0z := _; wpAny _ A0z _ Q0z E0z _); intro A0z Q0z E0z)
    (k_steps <;> repeat' (first | ((k_here; (with_reducible show wpAny _ _ (call (Value.ref 71) [_, _, _]) _ _ _); k_dflt (refine' hsv_c ?k1 ?k2 ?k3 ?k4 ?k5 ?kK ?kd ?ku ?ok ?_; (case k1 => k_asm); (case k2 => k_asm); (case k3 => k_asm); (case k4 => k_asm); (case k5 => k_asm); (case kK => first | exact rfl | assumption); (case kd => ktr_room); (case ku => ktr_units); (case ok => assumption)); (intro t9z t8 t7 h9z tk9z a9z x9z z9z F9z N9z l9z q9z); (try dsimp only); (try k_fold)) <;> k_steps)))
    exact ⟨_, _, rfl, by k_asm, cb_drop (by k_asm) fun p hp => List.mem_cons_of_mem _ hp, ⟨_, _, _, _, rfl, by dsimp only at *; omega, hR⟩⟩
  case fin =>
    intro ys got D h9 tk9 F9 N9 l9 htk9
    try ((show let A0z := _; let Q0z := _; let E0z := _; wpAny _ A0z _ Q0z E0z _); intro A0z Q0z E0z)
    (k_steps <;> repeat' (first | ((k_here; (with_reducible show wpAny _ _ (call (Value.ref 71) [_, _, _]) _ _ _); k_dflt (refine' hsv_c ?k1 ?k2 ?k3 ?k4 ?k5 ?kK ?kd ?ku ?ok ?_; (case k1 => k_asm); (case k2 => k_asm); (case k3 => k_asm); (case k4 => k_asm); (case k5 => k_asm); (case kK => first | exact rfl | assumption); (case kd => ktr_room); (case ku => ktr_units); (case ok => assumption)); (intro t9z t8 t7 h9z tk9z a9z x9z z9z F9z N9z l9z q9z); (try dsimp only); (try k_fold)) <;> k_steps)))
    exact ret _ _ _ _ (by k_asm) (by k_asm) l9 got

end
end Mine

end PartPHue
section DryPSig
local macro_rules | `(tactic| walk_at "z0") => `(tactic| skip)
local macro_rules | `(tactic| walk_at "z1") => `(tactic| skip)
theorem Mine.offPSig : True := by
  w_top off
  k_with_none
  try walk1
  trivial
end DryPSig
section PartPSig
open PySem PySem.W PyProof.Rows
set_option maxRecDepth 100000
set_option maxHeartbeats 8000000
set_option linter.unusedSectionVars false
open PySem.Flt
namespace Mine
open PyProof.Rows.LCg (NsObj lst lst_snoc ns_obj)

noncomputable def ch (b : Bool) : Nat := if b then 9 else 32
noncomputable def tx (bs : List Bool) : Str := ⟨(bs.map ch).toArray⟩
noncomputable abbrev q1 : UInt64 := 4598175219545276416
noncomputable abbrev q2 : UInt64 := 4602678819172646912
noncomputable abbrev q3 : UInt64 := 4604930618986332160
noncomputable def HueAt (x : UInt64) (i : Nat) : Prop := (Float64.cmp x q1 == some .lt) = decide (i ≤ 0) ∧ (Float64.cmp x q2 == some .lt) = decide (i ≤ 1) ∧ (Float64.cmp x q3 == some .lt) = decide (i ≤ 2)
theorem sign_item (i : Nat) : Txt.item (Str.ofString " 	") ((i : Int).fmod 2) = tx [decide (i % 2 = 1)] := by
  have e : (i : Int).fmod 2 = ((i % 2 : Nat) : Int) := by rw [Int.fmod_eq_emod_of_nonneg _ (by decide)]; rfl
  rw [e]
  rcases Nat.mod_two_eq_zero_or_one i with h | h <;> rw [h] <;> decide +kernel
theorem got_strs {vs ys : List Value} {bs : List Bool} (got : Got vs ys fun j y => ∃ b t, bs[j]? = some b ∧ y = .str (tx [b]) t) (hb : bs.length = vs.length) : StrsAre ys (bs.map fun b => tx [b]) := by
  obtain ⟨h1, h2⟩ := got
  have key : ∀ (ys : List Value) (bs : List Bool), ys.length = bs.length → (∀ j, j < bs.length → ∃ y, ys[j]? = some y ∧ ∃ b t, bs[j]? = some b ∧ y = .str (tx [b]) t) → StrsAre ys (bs.map fun b => tx [b]) := by
    intro ys
    induction ys with
    | nil => intro bs hl _; cases bs with
      | nil => exact .nil
      | cons => cases hl
    | cons y ys ih => intro bs hl hj; cases bs with
      | nil => cases hl
      | cons b bs =>
        obtain ⟨y', e, b', t, eb, ey⟩ := hj 0 (by simp)
        simp at e eb
        subst e eb ey
        refine .cons _ t (ih bs (by simpa using hl) fun j hj' => ?_)
        obtain ⟨y', e, r⟩ := hj (j + 1) (by simpa using hj')
        exact ⟨y', by simpa using e, by simpa using r⟩
  exact key ys bs (by rw [h1, hb]) (by rw [hb]; exact h2)
theorem join_tx : ∀ bs : List Bool, Str.join (Str.ofString "") (bs.map fun b => tx [b]) = tx bs
  | [] => rfl
  | [b] => rfl
  | b :: c :: r => by
    have ih := join_tx (c :: r)
    rw [List.map_cons, List.map_cons, PyProof.Rows.join_cons_cons, ← List.map_cons (f := fun b => tx [b]), ih]
    apply Str.ext'
    rw [Str.cps_append, Str.cps_append]
    show (tx [b]).cps ++ #[] ++ (tx (c :: r)).cps = _
    rw [Array.append_empty]
    simp [tx]
section
variable {prog : Program} {w : World} {A : Around} {E : Value → Shared → Prop} {s : Shared} {h₀ : Heap} {L : Addr} {news : List (Addr × Obj)}
theorem join_bs {D : Addr} {ys : List Value} {bs : List Bool} {u : Tok} {Q : Value → Shared → Prop} (N : News h₀ L s.heap news) (hD : (D, lst ys) ∈ news) (hs : StrsAre ys (bs.map fun b => tx [b])) (hn : bs.length ≤ 1000)
    (h : ∀ t' k, Q (.str (tx bs) t') { s with toks := k }) : wpAny (model prog w) A (call (.builtin "str.join") [.str (Str.ofString "") u, .ref D]) Q E s := by
  refine join_listW (ys := bs.map fun b => tx [b]) ⟨_, (N _ hD).1, rfl, _, rfl⟩ (by simpa using hs) (by decide) ?_ fun t' k => ?_
  · have e : ((bs.map fun b => tx [b]).map (·.length)).sum = bs.length := by
      rw [List.map_map]
      have : (fun x : Str => x.length) ∘ (fun b => tx [b]) = fun _ => 1 := by funext b; rfl
      rw [this, List.map_const', List.sum_replicate_nat]; omega
    rw [e, List.length_map]; omega
  · have e : Txt.join (Str.ofString "") (bs.map fun b => tx [b]) = tx bs := (PySem.StrLaws.glued_eq_join _ _).trans (join_tx bs)
    rw [e]; exact h t' k
end
theorem flts3 {x : UInt64} {i : Nat} {t1 t2 t3 : Tok} (h : HueAt x i) : FltsAre [.float q1 t1, .float q2 t2, .float q3 t3] fun j y => (Float64.cmp x y == some .lt) = decide (i ≤ j) := by
  intro j hj
  match j, hj with
  | 0, _ => exact ⟨_, _, rfl, h.1⟩
  | 1, _ => exact ⟨_, _, rfl, h.2.1⟩
  | 2, _ => exact ⟨_, _, rfl, h.2.2⟩
local macro_rules | `(tactic| walk_at "eval ListComp") => `(tactic| (k_here; k_dflt (refine comp_E (by k_asm) rfl (by with_unfolding_all rfl) (by decide) (by rfl) (by decide) (by intro _; with_unfolding_all rfl) ?_)))
section
variable {w : World} {mean : ExcName → Option Value} {mg mb : Str → Option Value} {dp un : Nat} {gd : Option (List Code)} {cn : Str} {cs : Scope} {a : Addr} {ccd : Value} {cl : List (Str × Addr)} {outer : List Env} {A₀ : Around} {base h₀ : Heap} {L : Addr} {m : Str → Option Value} {news : List (Addr × Obj)} {s : Shared} {Q E : Value → Shared → Prop}
 (B : Below A₀ base outer h₀) (F : Fr h₀ L s.heap m) (X : (Mine.hd.heap_1 w.params).In h₀) (N : News h₀ L s.heap news)
 (T : Top Mine.hd.view_1 (looseW Mine.hd.view_1 [Str.ofString "insort_right", Str.ofString "bisect_right", Str.ofString "insort_left", Str.ofString "bisect_left", Str.ofString "Whitespace"]) mean mg mb h₀) (hk : cs.kind = .function) (hd : dp + 4 < recursionLimit) (hu : un + 32 < cLine)
include B F X N T hk hd hu

theorem signs_c {vs : List Value} {kk : Nat} {al : Addr} {bs : List Bool} (hl : (al, listO vs kk) ∈ news) (hn : vs.length ≤ 1000) (hc : FltsAre vs fun j x => ∃ i, i ≤ 3 ∧ HueAt x i ∧ bs[j]? = some (decide (i % 2 = 1))) (hbs : bs.length = vs.length)
 (ret : ∀ t h' tk', Fr h₀ L h' m → News h₀ L h' news → Q (.str (tx bs) t) {s with heap := h', toks := tk'})
 : wpAny (model PySem.Challenge.rw_sc0103_01.row.prog w) (ktrTop dp un gd cn cs L a ccd cl outer) (call (.ref 168) [.ref al]) Q E s := by
  refine wpAny_call ?_
  k_dflt (refine' code_def ?k1 ?k2 ?k3 ?k4 ?k5 ?kA ?kF ?kK ?k6 ?k7 ?k8 ?k9 ?kB ?_ ?c2 ?c3 ?c4 ?c5; (case kA => exact rfl); (case kF => exact rfl); (case kK => assumption); (case k1 => k_asm); (case k2 => k_asm); (case k3 => k_asm); (case k4 => k_asm); (case k5 => k_asm); (case k6 => k_is); (case k7 => k_is); (case k8 => ktr_room); (case k9 => first | exact BindsTo.of_eq rfl | exact binds_K (by k_in) rfl (by k_is) rfl rfl rfl | (refine' binds_KW ?x1 ?x2 ?x3 ?x4 ?x5 ?x6 ?x7 ?x8; (case x1 => k_in); (case x2 => exact rfl); (case x3 => k_is); (case x4 => exact rfl); (case x5 => exact rfl); (case x6 => exact rfl); (case x7 => k_is); (case x8 => exact rfl))); (case c5 => decide); (case kB => exact locs rfl); (case c2 => exact rfl); (case c3 => exact rfl); (case c4 => exact rfl); k_whole; intro g' L' h' FG' F' N' B' X' T'; (try dsimp only); (try k_fold))
  try ((show let A0z := _; let Q0z := _; let E0z := _; wpAny _ A0z _ Q0z E0z _); intro A0z Q0z E0z)
  (k_steps <;> repeat' (first | ((k_here; k_dflt (refine join_bs (by k_asm) (by k_mem) (by assumption) (by omega) ?_); intro _ _) <;> k_steps) | ((k_here; (with_reducible show wpAny _ _ (call (Value.ref 39) [_, _]) _ _ _); k_dflt (refine' bisR_flt ?k1 ?k2 ?k3 ?k4 ?k5 ?kK ?kd ?ku ?hl ?hn ?hi ?hc ?_; (case k1 => k_asm); (case k2 => k_asm); (case k3 => k_asm); (case k4 => k_asm); (case k5 => k_asm); (case kK => first | exact rfl | assumption); (case kd => ktr_room); (case ku => ktr_units); (case hl => k_mem); (case hn => exact Nat.le_of_ble_eq_true rfl); (case hi => assumption); (case hc => exact flts3 (by assumption))); (intro t9z h9z tk9z F9z N9z); (try dsimp only); (try k_fold)) <;> k_steps)))
  refine ⟨_, _, _, _, _, (fun j y => ∃ b t, bs[j]? = some b ∧ y = .str (tx [b]) t), rfl, by k_asm, by k_asm, by k_mem, hn, asg_name (by rfl) (by rfl), ?turn, ?fin⟩
  case turn =>
    intro j v I oI C oC D ys m₂ h tk E' hv hC hA F9 N9 htk
    obtain ⟨t0, x, e, i, hi3, hat, hb⟩ := hc j (by rcases List.getElem?_eq_some_iff.mp hv with ⟨q, _⟩; exact q)
    rw [hv] at e; cases e
    try ((show let A0z := _; let Q0z := _; let E0z := _; wpAny _ A0z _ Q0z E0z _); intro A0z Q0z E0z)
    (k_steps <;> repeat' (first | ((k_here; k_dflt (refine join_bs (by k_asm) (by k_mem) (by assumption) (by omega) ?_); intro _ _) <;> k_steps) | ((k_here; (with_reducible show wpAny _ _ (call (Value.ref 39) [_, _]) _ _ _); k_dflt (refine' bisR_flt ?k1 ?k2 ?k3 ?k4 ?k5 ?kK ?kd ?ku ?hl ?hn ?hi ?hc ?_; (case k1 => k_asm); (case k2 => k_asm); (case k3 => k_asm); (case k4 => k_asm); (case k5 => k_asm); (case kK => first | exact rfl | assumption); (case kd => ktr_room); (case ku => ktr_units); (case hl => k_mem); (case hn => exact Nat.le_of_ble_eq_true rfl); (case hi => assumption); (case hc => exact flts3 (by assumption))); (intro t9z h9z tk9z F9z N9z); (try dsimp only); (try k_fold)) <;> k_steps)))
    exact ⟨_, _, rfl, by k_asm, cb_drop (by k_asm) fun p hp => List.mem_cons_of_mem _ hp, ⟨_, _, hb, congrArg (Value.str · _) (sign_item i)⟩⟩
  case fin =>
    intro ys got D h9 tk9 F9 N9 l9 htk9
    have hS := got_strs got hbs
    try ((show let A0z := _; let Q0z := _; let E0z := _; wpAny _ A0z _ Q0z E0z _); intro A0z Q0z E0z)
    (k_steps <;> repeat' (first | ((k_here; k_dflt (refine join_bs (by k_asm) (by k_mem) (by assumption) (by omega) ?_); intro _ _) <;> k_steps) | ((k_here; (with_reducible show wpAny _ _ (call (Value.ref 39) [_, _]) _ _ _); k_dflt (refine' bisR_flt ?k1 ?k2 ?k3 ?k4 ?k5 ?kK ?kd ?ku ?hl ?hn ?hi ?hc ?_; (case k1 => k_asm); (case k2 => k_asm); (case k3 => k_asm); (case k4 => k_asm); (case k5 => k_asm); (case kK => first | exact rfl | assumption); (case kd => ktr_room); (case ku => ktr_units); (case hl => k_mem); (case hn => exact Nat.le_of_ble_eq_true rfl); (case hi => assumption); (case hc => exact flts3 (by assumption))); (intro t9z h9z tk9z F9z N9z); (try dsimp only); (try k_fold)) <;> k_steps)))
    all_goals exact ret _ _ _ (by k_asm) (cb_drop (by k_asm) fun p hp => List.mem_cons_of_mem _ hp)

end
end Mine

end PartPSig
section PartPFor
open PySem PySem.W PyProof.Rows PySem.Calls PySem.Spec
set_option maxRecDepth 100000
set_option maxHeartbeats 8000000
set_option linter.unusedSectionVars false
namespace Mine
section
variable {prog : Program} {w : World} {A : Around} {E : Value → Shared → Prop} {s : Shared} {h₀ : Heap} {m : Str → Option Value} {env : Env} {news : List (Addr × Obj)} {Q : Flow → Shared → Prop}
noncomputable def ForStep (h₀ : Heap) (L : Addr) (s₁ : Shared) (I : Addr) (oI : Obj) (J : (Str → Option Value) → List (Addr × Obj) → Prop) (Q : Flow → Shared → Prop) (f : Flow) (s₂ : Shared) : Prop :=
  match f with
  | .ret v => Q (.ret v) s₂
  | .brk => Q .next s₂
  | _ => ∃ h' tk m₂ news₂, s₂ = { s₁ with heap := h', toks := tk } ∧ Fr h₀ L h' m₂ ∧ News h₀ L h' ((I, oI) :: news₂) ∧ (∀ p ∈ news₂, p.1 ≠ I) ∧ J m₂ news₂
noncomputable def StepOk (prog : Program) (w : World) (A : Around) (h₀ : Heap) (env : Env) (x : Str) (body : List Stmt) (E : Value → Shared → Prop) (s : Shared) (n : Nat) (P : Nat → Value → Prop) (J : Nat → (Str → Option Value) → List (Addr × Obj) → Prop) (Q : Flow → Shared → Prop) : Prop :=
  ∀ (i : Nat) (v : Value) (m₁ : Str → Option Value) (news₁ : List (Addr × Obj)) (I : Addr) (oI : Obj) (h : Heap) (tk : Nat), i < n → P i v → J i m₁ news₁ → (∀ p ∈ news₁, p.1 ≠ I) → Fr h₀ env.locals h (fun y => if y = x then some v else m₁ y) → News h₀ env.locals h ((I, oI) :: news₁) →
    wpAny (model prog w) A (execs body env) (ForStep h₀ env.locals { s with heap := h, toks := tk } I oI (J (i + 1)) Q) E { s with heap := h, toks := tk }
noncomputable def FinOk (h₀ : Heap) (L : Addr) (s : Shared) (n : Nat) (J : Nat → (Str → Option Value) → List (Addr × Obj) → Prop) (Q : Flow → Shared → Prop) : Prop :=
  ∀ h tk m' news', Fr h₀ L h m' → News h₀ L h news' → J n m' news' → Q .next { s with heap := h, toks := tk }

theorem for_core {x : Str} {px : Pos} {body : List Stmt} {I : Addr} {fp : List Addr} {n : Nat} {P : Nat → Value → Prop} {St : Nat → Heap → Prop} (W : Walks prog w A I fp [I] n P St) (hx : env.kindOf x = some .local)
    (hp : (env.scope.kind == .class || (env.scope.kind == .module && env.locals != env.globals)) = false) (J : Nat → (Str → Option Value) → List (Addr × Obj) → Prop)
    (hIo : ∀ i h, St i h → ∃ o, h.get? I = some o) (hSt : ∀ i j m' h h' o nw, St i h → h.get? I = some o → h'.get? I = some o → News h₀ env.locals h' nw → J j m' nw → St i h')
    (hst : St 0 s.heap) (F : Fr h₀ env.locals s.heap m) (N : News h₀ env.locals s.heap news) (hIL : env.locals ≠ I) (hI₀ : h₀.get? I = none) (off : ∀ p ∈ news, p.1 ≠ I) (h0 : J 0 m news)
    (step : StepOk prog w A h₀ env x body E s n P J Q) (fin : FinOk h₀ env.locals s n J Q) (hE : PassesOwn (model prog w) A env E) :
    codeAny (model prog w) A (.forLoop (.Name x px) (.ref I) body [] env) (fun r s' => match r with | .ok f => Q f s' | .error e => cameBackBy (model prog w) A env E e s') s := by
  refine codeAny_forLoop_any (fun k s' => ∃ h' tk i m' news', s' = { s with heap := h', toks := tk } ∧ i ≤ n ∧ k = n + 1 - i ∧ St i h' ∧ Fr h₀ env.locals h' m' ∧ News h₀ env.locals h' news' ∧ (∀ p ∈ news', p.1 ≠ I) ∧ J i m' news') ?_ (n + 1)
    ⟨s.heap, s.toks, 0, m, news, rfl, Nat.zero_le _, rfl, hst, F, N, off, h0⟩
  rintro k s' ⟨h', tk, i, m', news', rfl, hi, rfl, hst', F', N', off', hJ⟩
  have fr : ∀ h₁ : Heap, (∀ b o, b ∉ [I] → h'.get? b = some o → h₁.get? b = some o) → Fr h₀ env.locals h₁ m' := fun h₁ hk =>
    ⟨F'.ns.at' fun o e => hk _ o (by simpa using hIL) e, fun b o e => hk b o (fun q => by rw [List.mem_singleton.mp q, hI₀] at e; cases e) (F'.keep b o e), F'.above⟩
  have nw : ∀ h₁ : Heap, (∀ b o, b ∉ [I] → h'.get? b = some o → h₁.get? b = some o) → News h₀ env.locals h₁ news' := fun h₁ hk p hp => ⟨hk _ _ (by simpa using off' p hp) (N' p hp).1, (N' p hp).2⟩
  by_cases hlt : i < n
  · refine W.item i _ _ _ hlt hst' fun v h₁ tk₁ hP hst₁ hk₁ => ?_
    have F₁ := fr h₁ hk₁
    have N₁ := nw h₁ hk₁
    refine wpAny_pure ?_
    refine wpAny_assign_Name (wpAny_storeName_local hx F₁.ns (fun h₂ hn₂ hs₂ => ?_) hp)
    have F₂ := F₁.set hn₂ hs₂
    obtain ⟨oI, eI⟩ := hIo _ _ hst₁
    have eI₂ : h₂.get? I = some oI := hs₂.extBut _ _ (Ne.symm hIL) eI
    have N₂ : News h₀ env.locals h₂ ((I, oI) :: news') := fun p hp => by
      rcases List.mem_cons.mp hp with rfl | hp
      · exact ⟨eI₂, Ne.symm hIL, hI₀⟩
      · exact N₁.set hs₂ p hp
    refine wpAny_passesOwn hE (wpAny_mono (step i v m' news' I oI h₂ _ hlt hP hJ off' F₂ N₂) (fun f s₃ h₃ => ?_) fun _ _ e => e)
    have key : (∃ h' tk m₂ news₂, s₃ = { s with heap := h', toks := tk } ∧ Fr h₀ env.locals h' m₂ ∧ News h₀ env.locals h' ((I, oI) :: news₂) ∧ (∀ p ∈ news₂, p.1 ≠ I) ∧ J (i + 1) m₂ news₂) →
        ∃ k, k < n + 1 - i ∧ ∃ h' tk i m' news', s₃ = { s with heap := h', toks := tk } ∧ i ≤ n ∧ k = n + 1 - i ∧ St i h' ∧ Fr h₀ env.locals h' m' ∧ News h₀ env.locals h' news' ∧ (∀ p ∈ news', p.1 ≠ I) ∧ J i m' news' := by
      rintro ⟨h₃', tk₃, m₂, news₂, rfl, F₃, N₃, off₃, hJ₃⟩
      have Nn : News h₀ env.locals h₃' news₂ := fun p hp => N₃ p (List.mem_cons_of_mem _ hp)
      exact ⟨n + 1 - (i + 1), by omega, h₃', tk₃, i + 1, m₂, news₂, rfl, hlt, rfl, hSt _ _ _ _ _ oI _ hst₁ eI (N₃ _ List.mem_cons_self).1 Nn hJ₃, F₃, Nn, off₃, hJ₃⟩
    cases f with
    | ret v => exact h₃
    | brk => exact h₃
    | next => exact key h₃
    | cont => exact key h₃
  · obtain rfl : i = n := by omega
    refine W.done _ _ _ hst' fun h₁ tk₁ hk₁ => wpAny_execs_nil ?_
    exact fin h₁ tk₁ m' news' (fr h₁ hk₁) (nw h₁ hk₁) hJ

noncomputable def ForGo (prog : Program) (w : World) (A : Around) (env : Env) (x : Str) (px : Pos) (body : List Stmt) (Q : Flow → Shared → Prop) (E : Value → Shared → Prop) (xv : Value) (s₁ : Shared) : Prop :=
  wpAny (model prog w) A (pyIter xv) (fun it s₂ => codeAny (model prog w) A (.forLoop (.Name x px) it body [] env) (fun r s' => match r with | .ok f => Q f s' | .error e => cameBackBy (model prog w) A env E e s') s₂) E s₁
theorem for_enter {x : Str} {px pos : Pos} {iter : Expr} {body : List Stmt} (hs : ∀ x, foldedSetIterable iter env x = pure x) (h : wpAny (model prog w) A (eval iter env) (ForGo prog w A env x px body Q E) E s) :
    wpAny (model prog w) A (exec (.For (.Name x px) iter body [] pos) env) Q E s := wpAny_For h hs

section
variable {L : Addr} {x : Str} {px : Pos} {body : List Stmt} (hL : env.locals = L) (hx : env.kindOf x = some .local) (hp : (env.scope.kind == .class || (env.scope.kind == .module && env.locals != env.globals)) = false) (hh : A.handled = none) (hE : PassesOwn (model prog w) A env E)
  (J : Nat → (Str → Option Value) → List (Addr × Obj) → Prop) (F : Fr h₀ env.locals s.heap m) (N : News h₀ env.locals s.heap news) (h0 : J 0 m news)
include hx hp hh hE F N h0
theorem fresh_of (F : Fr h₀ env.locals s.heap m) : h₀.get? s.heap.objs.size = none := by
  cases e : h₀.get? s.heap.objs.size with
  | none => rfl
  | some o => exact absurd (Heap.lt_size (F.keep _ _ e)) (Nat.lt_irrefl _)
theorem for_list {vs : List Value} {kk : Nat} {ax : Addr} (hJ : ∀ i m' nw, J i m' nw → (ax, ({ cls := .type "list", data := .seq vs.toArray kk } : Obj)) ∈ nw)
    (step : StepOk prog w A h₀ env x body E s vs.length (fun i v => vs[i]? = some v) J Q) (fin : FinOk h₀ env.locals s vs.length J Q) : ForGo prog w A env x px body Q E (.ref ax) s := by
  have hm := hJ _ _ _ h0
  have hl : s.heap.IsList ax vs.toArray := ⟨_, (N _ hm).1, rfl, _, rfl⟩
  have hlt : ax < s.heap.objs.size := Heap.lt_size (N _ hm).1
  refine wpAny_pyIter_list hl ?_
  have up : ∀ b o, s.heap.get? b = some o → (s.heap.push { cls := .type "list_iterator", data := .fields #[.ref ax, .int 0 0] }).get? b = some o := fun b o e => Heap.get?_push_of_some _ e
  have W := Walks.list (prog := prog) (w := w) hh s.heap.objs.size ax (Nat.ne_of_lt hlt) vs.toArray
  rw [List.size_toArray] at W
  refine for_core W hx hp J (fun i h st => by obtain ⟨o, e, _⟩ := st.1; exact ⟨o, e⟩) (fun i j m' h h' o nw st e e' N' j' => ?_) ⟨⟨_, Heap.get?_push_size _ rfl, rfl, rfl⟩, hl.push _⟩ (F.keeps up) (N.grown up) (Nat.ne_of_lt F.ns.lt) (fresh_of hx hp hh hE J F N h0 F)
    (fun p hp => Nat.ne_of_lt (Heap.lt_size (N p hp).1)) h0 (fun i v m₁ news₁ I oI h tk hi hP => step i v m₁ news₁ I oI h tk hi (by simpa using hP)) fin hE
  obtain ⟨o', q, r⟩ := st.1
  have q2 := e.symm.trans q
  cases q2
  exact ⟨⟨o, e', r⟩, ⟨_, (N' _ (hJ _ _ _ j')).1, rfl, _, rfl⟩⟩
theorem for_range {r : Addr} {a b : Int} {t u v : Tok} {n : Nat} (hr : IsRange s.heap r a b 1 t u v) (hsm : Builtin.Range.small a b 1 = true) (hn : Builtin.Range.rangeSize a b 1 = ((n : Nat) : Int))
    (step : StepOk prog w A h₀ env x body E s n (fun i v => ∃ t, v = .int (a + (i : Int)) t) J Q) (fin : FinOk h₀ env.locals s n J Q) : ForGo prog w A env x px body Q E (.ref r) s := by
  refine wpAny_pyIter_range hr hsm ?_
  rw [hn]
  have up : ∀ b o, s.heap.get? b = some o → (s.heap.push { cls := .type "range_iterator", data := .fields #[rawInt a, rawInt (n : Int), rawInt 1] }).get? b = some o := fun b o e => Heap.get?_push_of_some _ e
  refine for_core (Walks.range (prog := prog) (w := w) hh s.heap.objs.size a 1 n) hx hp J (fun i h st => ⟨_, st⟩) (fun i j m' h h' o nw st e e' N' j' => ?_) ?_ (F.keeps up) (N.grown up) (Nat.ne_of_lt F.ns.lt) (fresh_of hx hp hh hE J F N h0 F)
    (fun p hp => Nat.ne_of_lt (Heap.lt_size (N p hp).1)) h0 (fun i v m₁ news₁ I oI h tk hi hP => step i v m₁ news₁ I oI h tk hi (by obtain ⟨t, e⟩ := hP; exact ⟨t, by rw [e, Int.mul_one]⟩)) fin hE
  · have st' : h.get? _ = some _ := st
    show h'.get? _ = some _
    rw [e', ← e]; exact st'
  · show IsRangeIter _ _ _ _ _
    simpa using Heap.get?_push_size _ rfl
theorem for_str {y : Str} {t : Tok} (ha : y.cps.all (· < 128) = true) (step : StepOk prog w A h₀ env x body E s y.cps.size (SignAt y) J Q) (fin : FinOk h₀ env.locals s y.cps.size J Q) : ForGo prog w A env x px body Q E (.str y t) s := by
  refine wpAny_pyIter_ascii ha ?_
  refine for_core (Walks.strAscii (prog := prog) (w := w) hh s.heap.objs.size y t) hx hp J (fun i h st => by obtain ⟨o, e, _⟩ := st; exact ⟨o, e⟩) (fun i j m' h h' o nw st e e' N' j' => ?_) ⟨_, Heap.get?_push_size _ rfl, rfl, rfl⟩ (F.push _) (fun p hp => ⟨Heap.get?_push_of_some _ (N p hp).1, (N p hp).2⟩)
    (Nat.ne_of_lt F.ns.lt) (fresh_of hx hp hh hE J F N h0 F) (fun p hp => Nat.ne_of_lt (Heap.lt_size (N p hp).1)) h0 step fin hE
  obtain ⟨o', q, r⟩ := st
  have q2 := e.symm.trans q
  cases q2
  exact ⟨o, e', r⟩
end
end
end Mine

end PartPFor
section PartPForS
open PySem PySem.W PyProof.Rows PySem.Calls PySem.Spec
set_option maxRecDepth 100000
set_option maxHeartbeats 8000000
set_option linter.unusedSectionVars false
namespace Mine
noncomputable def mapS (stored : List Str) (u m₀ : Str → Option Value) (ps : List (Str × Value)) : Str → Option Value := kstB (fun z => if stored.contains z then u z else m₀ z) ps
noncomputable def SameOff (stored : List Str) (ps : List (Str × Value)) (m₁ m₀ : Str → Option Value) : Prop := ∀ z, (∀ p ∈ ps, z ≠ p.1) → stored.contains z = false → m₁ z = m₀ z
theorem mapS_off {stored : List Str} {z : Str} : ∀ {ps : List (Str × Value)}, (∀ p ∈ ps, z ≠ p.1) → stored.contains z = false → ∀ u m₀, mapS stored u m₀ ps z = m₀ z
  | [], _, h, u, m₀ => by simp only [mapS, kstB, h, Bool.false_eq_true, if_false]
  | p :: r, hp, h, u, m₀ => by
    have h1 : z ≠ p.1 := hp p (.head _)
    have ih := mapS_off (ps := r) (fun q hq => hp q (.tail _ hq)) h u m₀
    show (if z = p.1 then some p.2 else mapS stored u m₀ r z) = m₀ z
    rw [if_neg h1, ih]
noncomputable def JS {σ : Type} (ps : σ → List (Str × Value)) (Led : σ → List (Addr × Obj)) (I : Nat → σ → Prop) (stored : List Str) (m₀ : Str → Option Value) : Nat → (Str → Option Value) → List (Addr × Obj) → Prop :=
  fun i m' nw => ∃ c, nw = Led c ∧ I i c ∧ (∀ p ∈ ps c, m' p.1 = some p.2) ∧ SameOff stored (ps c) m' m₀
section
variable {σ : Type} {ps : σ → List (Str × Value)} {Led : σ → List (Addr × Obj)} {I : Nat → σ → Prop} {stored : List Str} {m₀ : Str → Option Value}
variable {prog : Program} {w : World} {A : Around} {E : Value → Shared → Prop} {s : Shared} {h₀ : Heap} {env : Env} {Q : Flow → Shared → Prop} {x : Str} {body : List Stmt} {n : Nat} {P : Nat → Value → Prop}
theorem js0 (c : σ) (hI : I 0 c) (hp : ∀ p ∈ ps c, m₀ p.1 = some p.2) : JS ps Led I stored m₀ 0 m₀ (Led c) := ⟨c, rfl, hI, hp, fun _ _ _ => rfl⟩
noncomputable def EndS (ps : σ → List (Str × Value)) (Led : σ → List (Addr × Obj)) (I : σ → Prop) (stored : List Str) (m₀ : Str → Option Value) (h₀ : Heap) (L : Addr) (s₁ : Shared) (It : Addr) (oI : Obj) (s₂ : Shared) : Prop :=
  ∃ c h' tk m₂, s₂ = { s₁ with heap := h', toks := tk } ∧ Fr h₀ L h' m₂ ∧ News h₀ L h' ((It, oI) :: Led c) ∧ (∀ p ∈ Led c, p.1 ≠ It) ∧ I c ∧ (∀ p ∈ ps c, m₂ p.1 = some p.2) ∧ SameOff stored (ps c) m₂ m₀
noncomputable def TurnS (ps : σ → List (Str × Value)) (Led : σ → List (Addr × Obj)) (I : σ → Prop) (stored : List Str) (m₀ : Str → Option Value) (h₀ : Heap) (L : Addr) (s₁ : Shared) (It : Addr) (oI : Obj) (Q : Flow → Shared → Prop) (f : Flow) (s₂ : Shared) : Prop :=
  match f with
  | .ret v => Q (.ret v) s₂
  | .brk => Q .next s₂
  | _ => EndS ps Led I stored m₀ h₀ L s₁ It oI s₂
theorem fr_S {h₁ : Heap} {L : Addr} {c : σ} {m₁ : Str → Option Value} (h1 : ∀ p ∈ ps c, m₁ p.1 = some p.2) (h2 : SameOff stored (ps c) m₁ m₀) (F : Fr h₀ L h₁ m₁) : Fr h₀ L h₁ (mapS stored m₁ m₀ (ps c)) := ksw_fr h1 h2 F
theorem step_S (hx : ∀ c, ∀ p ∈ ps c, p.1 ≠ x)
    (h : ∀ (i : Nat) (v : Value) (c : σ) (u : Str → Option Value) (It : Addr) (oI : Obj) (hp : Heap) (tk : Nat), i < n → P i v → I i c → (∀ p ∈ Led c, p.1 ≠ It) → Fr h₀ env.locals hp (fun y => if y = x then some v else mapS stored u m₀ (ps c) y) → News h₀ env.locals hp ((It, oI) :: Led c) →
      wpAny (model prog w) A (execs body env) (TurnS ps Led (I (i + 1)) stored m₀ h₀ env.locals { s with heap := hp, toks := tk } It oI Q) E { s with heap := hp, toks := tk }) :
    StepOk prog w A h₀ env x body E s n P (JS ps Led I stored m₀) Q := by
  rintro i v m₁ nw It oI hp tk hi hP ⟨c, rfl, hI, h1, h2⟩ off F N
  have em : mapS stored m₁ m₀ (ps c) = m₁ := by
    funext y
    refine kstB_eq h1 fun hn => ?_
    show (if stored.contains y = true then m₁ y else m₀ y) = m₁ y
    cases h3 : stored.contains y with
    | true => simp
    | false => simp only [Bool.false_eq_true, if_false]; exact (h2 y hn h3).symm
  refine wpAny_mono (h i v c m₁ It oI hp tk hi hP hI off (by rw [em]; exact F) N) (fun f s₃ q => ?_) fun _ _ e => e
  have key : EndS ps Led (I (i + 1)) stored m₀ h₀ env.locals { s with heap := hp, toks := tk } It oI s₃ → ∃ h' tk' m₂ news₂, s₃ = { s with heap := h', toks := tk' } ∧ Fr h₀ env.locals h' m₂ ∧ News h₀ env.locals h' ((It, oI) :: news₂) ∧ (∀ p ∈ news₂, p.1 ≠ It) ∧ JS ps Led I stored m₀ (i + 1) m₂ news₂ := by
    rintro ⟨c', h', tk', m₂, rfl, F', N', off', hI', h1', h2'⟩
    exact ⟨h', tk', m₂, _, rfl, F', N', off', c', rfl, hI', h1', h2'⟩
  cases f with
  | ret v => exact q
  | brk => exact q
  | next => exact key q
  | cont => exact key q
theorem fin_S {L : Addr} (h : ∀ (c : σ) (u : Str → Option Value) (hp : Heap) (tk : Nat), I n c → Fr h₀ L hp (mapS stored u m₀ (ps c)) → News h₀ L hp (Led c) → Q .next { s with heap := hp, toks := tk }) : FinOk h₀ L s n (JS ps Led I stored m₀) Q := by
  rintro hp tk m' nw F N ⟨c, rfl, hI, h1, h2⟩
  exact h c m' hp tk hI (fr_S h1 h2 F) N
end
end Mine

end PartPForS
section PartPTxt
open PySem PySem.W PyProof.Rows PySem.Calls PySem.Spec
set_option maxRecDepth 100000
set_option maxHeartbeats 8000000
set_option linter.unusedSectionVars false
namespace Mine
open PySem.Builtin.Str PySem.StrLaws PySem.Builtin
noncomputable def occL (p : Nat → Bool) (w : Nat) : Nat → Nat → Nat → List Nat
  | 0, _, _ => []
  | n + 1, a, free => if free ≤ a ∧ p a = true then a :: occL p w n (a + 1) (a + w) else occL p w n (a + 1) free
noncomputable def pAt (s sub : Str) (hi i : Nat) : Bool := decide (i + sub.length ≤ hi) && subAt s sub i
theorem occ_run (s sub : Str) (hi limit : Nat) : ∀ (n a free : Nat) (found : Array Nat), (forIn (List.range' a n) (found, free) (occBody s sub hi limit)).run.fst.toList = found.toList ++ (occL (pAt s sub hi) sub.length n a free).take (limit - found.size)
  | 0, a, free, found => by simp [occL]
  | n + 1, a, free, found => by
    rw [List.range'_succ, List.forIn_cons]
    have ih := fun free found => occ_run s sub hi limit n (a + 1) free found
    unfold occBody
    by_cases h1 : free ≤ a ∧ pAt s sub hi a = true
    · have h2 : a + sub.length ≤ hi ∧ subAt s sub a = true := by simpa [pAt] using h1.2
      by_cases h3 : found.size < limit
      · rw [if_pos ⟨⟨⟨h3, h1.1⟩, h2.1⟩, h2.2⟩]
        show (forIn (List.range' (a + 1) n) (found.push a, a + sub.length) (occBody s sub hi limit)).run.fst.toList = _
        rw [ih, occL, if_pos h1]
        obtain ⟨k, hk⟩ : ∃ k, limit - found.size = k + 1 := ⟨limit - found.size - 1, (Nat.sub_add_cancel (Nat.sub_pos_of_lt (by assumption))).symm⟩
        have hk' : limit - (found.push a).size = k := by rw [Array.size_push, Nat.sub_add_eq, hk]; rfl
        rw [hk, hk', List.take_succ_cons]
        simp
      · rw [if_neg (fun c => h3 c.1.1.1)]
        show (forIn (List.range' (a + 1) n) (found, free) (occBody s sub hi limit)).run.fst.toList = _
        rw [ih]
        have e : limit - found.size = 0 := Nat.sub_eq_zero_of_le (Nat.le_of_not_lt (by assumption))
        rw [e]; simp
    · have hn : ¬ (((found.size < limit ∧ free ≤ a) ∧ a + sub.length ≤ hi) ∧ subAt s sub a = true) := fun c => h1 ⟨c.1.1.2, by simp [pAt, c.1.2, c.2]⟩
      rw [if_neg hn]
      show (forIn (List.range' (a + 1) n) (found, free) (occBody s sub hi limit)).run.fst.toList = _
      rw [ih, occL, if_neg h1]
theorem occ_is (s sub : Str) (lo hi limit : Nat) : occurrences s sub lo hi limit = (occL (pAt s sub hi) sub.length (hi + 1 - lo) lo lo).take limit := by
  rw [occ_eq, occ_run]; simp
theorem find_empty {s : Str} {lo hi : Nat} (h : lo ≤ hi) : occurrences s (Str.ofString "") lo hi 1 = [lo] := by
  rw [occ_is]
  obtain ⟨k, hk⟩ : ∃ k, hi + 1 - lo = k + 1 := ⟨hi - lo, Nat.succ_sub (by assumption)⟩
  have hp : pAt s (Str.ofString "") hi lo = true := by
    unfold pAt
    have e : (Str.ofString "").length = 0 := rfl
    rw [subAt_eq, e]
    simp [h]
    rfl
  rw [hk, occL, if_pos ⟨Nat.le_refl _, hp⟩]
  rfl
noncomputable def after (c : Bool) : List Bool → Option (List Bool)
  | [] => none
  | b :: r => if b = c then some r else after c r
theorem tx_len (bs : List Bool) : (tx bs).length = bs.length := by simp [tx, Str.length]
theorem tx_list (bs : List Bool) : (tx bs).cps.toList = bs.map ch := by simp [tx]
theorem ch_inj {a b : Bool} : ch a = ch b ↔ a = b := by cases a <;> cases b <;> simp [ch]
theorem at_one (bs : List Bool) (c : Bool) (i : Nat) : pAt (tx bs) (tx [c]) bs.length i = (bs[i]? == some c) := by
  unfold pAt
  have e : (tx [c]).length = 1 := rfl
  rw [subAt_eq, e, tx_list, tx_list]
  by_cases h : i < bs.length
  · have h1 : ((bs.map ch).drop i).take 1 = [ch bs[i]] := by
      rw [List.drop_eq_getElem_cons (by simpa using h)]
      simp
    rw [h1, List.getElem?_eq_getElem h]
    have h2 : decide (i + 1 ≤ bs.length) = true := by simp; omega
    rw [h2]
    cases hb : bs[i] <;> cases c <;> rfl
  · have h2 : decide (i + 1 ≤ bs.length) = false := by simp; omega
    rw [h2, List.getElem?_eq_none (by omega)]
    rfl
theorem find_run (bs : List Bool) (c : Bool) : ∀ (r : List Bool) (a free : Nat), bs.drop a = r → a + r.length = bs.length → free ≤ a →
    (occL (pAt (tx bs) (tx [c]) bs.length) 1 (r.length + 1) a free).take 1 = match after c r with | none => [] | some r' => [bs.length - r'.length - 1]
  | [], a, free, hd, ha, hf => by
    have hp : pAt (tx bs) (tx [c]) bs.length a = false := by
      rw [at_one, List.getElem?_eq_none (by simp at ha; omega)]; rfl
    rw [occL, if_neg (by rw [hp]; simp)]
    rfl
  | b :: r, a, free, hd, ha, hf => by
    simp at ha
    have hb : bs[a]? = some b := by
      have := congrArg (fun l => l[0]?) hd
      simpa using this
    rw [List.length_cons, occL, at_one, hb]
    by_cases hc : b = c
    · subst hc
      rw [if_pos ⟨hf, by simp⟩, after, if_pos rfl]
      show [a] = [_]
      congr 1; omega
    · rw [if_neg (by simp [hc]), after, if_neg hc]
      refine find_run bs c r (a + 1) free ?_ (by omega) (by omega)
      have := congrArg List.tail hd
      simpa using this
theorem find_one {bs : List Bool} {c : Bool} {lo : Nat} (h : lo ≤ bs.length) : occurrences (tx bs) (tx [c]) lo bs.length 1 = match after c (bs.drop lo) with | none => [] | some r' => [bs.length - r'.length - 1] := by
  rw [occ_is]
  have e : bs.length + 1 - lo = (bs.drop lo).length + 1 := by simp; exact Nat.succ_sub (by assumption)
  rw [e]
  exact find_run bs c _ lo lo rfl (by simp; omega) (Nat.le_refl _)
theorem after_len {c : Bool} : ∀ {l r : List Bool}, after c l = some r → r.length < l.length
  | [], _, h => nomatch h
  | b :: l, r, h => by
    unfold after at h
    split at h
    · cases h; simp
    · have := after_len h; simp; omega
theorem after_drop {c : Bool} : ∀ {l r : List Bool}, after c l = some r → l.drop (l.length - r.length) = r
  | [], _, h => nomatch h
  | b :: l, r, h => by
    have hl := after_len h
    unfold after at h
    split at h
    · cases h; simp
    · have ih := after_drop h
      have hl' := after_len h
      have e : (b :: l).length - r.length = (l.length - r.length) + 1 := by simp; exact Nat.succ_sub (Nat.le_of_lt (by assumption))
      rw [e, List.drop_succ_cons]; exact ih

-- three dots
noncomputable abbrev dots : Str := Str.ofString "..."
noncomputable def jl : List (List Nat) → List Nat
  | [] => []
  | [p] => p
  | p :: q :: r => p ++ (46 :: 46 :: 46 :: jl (q :: r))
noncomputable def cutsOf : Nat → List (List Nat) → List Nat
  | off, p :: q :: r => (off + p.length) :: cutsOf (off + p.length + 3) (q :: r)
  | _, _ => []
noncomputable def mkS (l : List Nat) : Str := ⟨l.toArray⟩
theorem mkS_len (l : List Nat) : (mkS l).length = l.length := by simp [mkS, Str.length]
theorem at_dots (l : List Nat) (i : Nat) : pAt (mkS l) dots l.length i = ((l.drop i).take 3 == [46, 46, 46]) := by
  unfold pAt
  have e : dots.length = 3 := rfl
  rw [subAt_eq, e]
  show (decide (i + 3 ≤ l.length) && ((l.drop i).take 3 == [46, 46, 46])) = _
  by_cases h : i + 3 ≤ l.length
  · simp [h]
  · have : ((l.drop i).take 3 == [46, 46, 46]) = false := by
      rw [beq_eq_false_iff_ne]
      intro q
      have := congrArg List.length q
      simp at this
      omega
    rw [this, Bool.and_false]
theorem skip_run (l : List Nat) (m free : Nat) : ∀ (q pre rest : List Nat), l = pre ++ q ++ rest → 46 ∉ q → occL (pAt (mkS l) dots l.length) 3 (q.length + m) pre.length free = occL (pAt (mkS l) dots l.length) 3 m (pre.length + q.length) free
  | [], pre, rest, _, _ => by simp
  | c :: q, pre, rest, hl, hq => by
    have hp : pAt (mkS l) dots l.length pre.length = false := by
      rw [at_dots, beq_eq_false_iff_ne, hl]
      have e : (pre ++ c :: q ++ rest).drop pre.length = c :: (q ++ rest) := by simp
      rw [e]
      intro h
      simp at h
      exact hq (by simp [h.1])
    have e : (c :: q).length + m = (q.length + m) + 1 := by simp; omega
    rw [e, occL, if_neg (by rw [hp]; simp)]
    have ih := skip_run l m free q (pre ++ [c]) rest (by rw [hl]; simp) (fun h => hq (List.mem_cons_of_mem _ h))
    simp only [List.length_append, List.length_singleton, List.length_cons, List.length_nil] at ih ⊢
    rw [ih]
    congr 1; omega
theorem cut_run (l : List Nat) : ∀ (ps : List (List Nat)) (pre : List Nat) (free : Nat), l = pre ++ jl ps → ps ≠ [] → (∀ p ∈ ps, 46 ∉ p) → free ≤ pre.length → occL (pAt (mkS l) dots l.length) 3 ((jl ps).length + 1) pre.length free = cutsOf pre.length ps
  | [], _, _, _, h, _, _ => absurd rfl h
  | [p], pre, free, hl, _, hp, hf => by
    have := skip_run l 1 free p pre [] (by simpa [jl] using hl) (hp p (by simp))
    show occL _ 3 (p.length + 1) _ _ = []
    rw [this, occL]
    have hz : pAt (mkS l) dots l.length (pre.length + p.length) = false := by
      rw [at_dots, beq_eq_false_iff_ne, hl]
      simp [jl]
    rw [if_neg (by rw [hz]; simp)]
    rfl
  | p :: q :: r, pre, free, hl, _, hp, hf => by
    have e1 : (jl (p :: q :: r)).length + 1 = p.length + (3 + ((jl (q :: r)).length + 1)) := by simp [jl]; omega
    have hs := skip_run l (3 + ((jl (q :: r)).length + 1)) free p pre (46 :: 46 :: 46 :: jl (q :: r)) (by rw [hl]; simp [jl]) (hp p (by simp))
    rw [e1, hs]
    have hd : pAt (mkS l) dots l.length (pre.length + p.length) = true := by
      rw [at_dots, hl]
      have : (pre ++ jl (p :: q :: r)).drop (pre.length + p.length) = 46 :: 46 :: 46 :: jl (q :: r) := by
        simp [jl, ← List.drop_drop]
      rw [this]
      rfl
    have e2 : 3 + ((jl (q :: r)).length + 1) = ((jl (q :: r)).length + 1) + 1 + 1 + 1 := by omega
    rw [e2, occL, if_pos ⟨by omega, hd⟩]
    show _ = (pre.length + p.length) :: cutsOf (pre.length + p.length + 3) (q :: r)
    congr 1
    rw [occL, if_neg (fun c => by have := c.1; omega), occL, if_neg (fun c => by have := c.1; omega)]
    have ih := cut_run l (q :: r) (pre ++ p ++ [46, 46, 46]) (pre.length + p.length + 3) (by rw [hl]; simp [jl]) (by simp) (fun p' h => hp p' (List.mem_cons_of_mem _ h)) (by simp; omega)
    have e3 : (pre ++ p ++ [46, 46, 46]).length = pre.length + p.length + 3 := by simp; omega
    rw [e3] at ih
    exact ih
theorem parts_run (l : List Nat) : ∀ (ps : List (List Nat)) (pre : List Nat), l = pre ++ jl ps → ps ≠ [] →
    ((pre.length :: (cutsOf pre.length ps).map (· + 3)).zip (cutsOf pre.length ps ++ [l.length])).map (fun x => strSub (mkS l) x.1 x.2) = ps.map mkS
  | [], _, _, h => absurd rfl h
  | [p], pre, hl, _ => by
    show [strSub (mkS l) pre.length l.length] = [mkS p]
    congr 1
    apply Str.ext'
    apply Array.toList_inj.mp
    rw [strSub_toList]
    show (l.drop pre.length).take _ = p
    rw [hl]
    simp [jl]
  | p :: q :: r, pre, hl, _ => by
    have ih := parts_run l (q :: r) (pre ++ p ++ [46, 46, 46]) (by rw [hl]; simp [jl]) (by simp)
    have e3 : (pre ++ p ++ [46, 46, 46]).length = pre.length + p.length + 3 := by simp; omega
    rw [e3] at ih
    show strSub (mkS l) pre.length (pre.length + p.length) :: (((pre.length + p.length + 3) :: (cutsOf (pre.length + p.length + 3) (q :: r)).map (· + 3)).zip (cutsOf (pre.length + p.length + 3) (q :: r) ++ [l.length])).map (fun x => strSub (mkS l) x.1 x.2) = mkS p :: (q :: r).map mkS
    rw [ih]
    congr 1
    apply Str.ext'
    apply Array.toList_inj.mp
    rw [strSub_toList]
    show (l.drop pre.length).take _ = p
    rw [hl]
    simp [jl]
theorem occ_dots {ps : List (List Nat)} (h : ps ≠ []) (hp : ∀ p ∈ ps, 46 ∉ p) (limit : Nat) : occurrences (mkS (jl ps)) dots 0 (mkS (jl ps)).length limit = (cutsOf 0 ps).take limit := by
  rw [occ_is, mkS_len]
  have := cut_run (jl ps) ps [] 0 (by simp) h hp (Nat.le_refl _)
  have e : dots.length = 3 := rfl
  rw [e, Nat.sub_zero]
  exact congrArg _ this
theorem cuts_len : ∀ (ps : List (List Nat)) (off : Nat), (cutsOf off ps).length ≤ (jl ps).length
  | [], _ => by simp [cutsOf]
  | [p], _ => by simp [cutsOf]
  | p :: q :: r, off => by
    have := cuts_len (q :: r) (off + p.length + 3)
    simp [cutsOf, jl] at this ⊢
    omega
theorem kind_le (x : Str) : ¬ (Builtin.Str.strKind x < Builtin.Str.strKind dots) := by
  have h1 : Builtin.Str.strKind dots = 1 := by decide +kernel
  rw [h1]
  unfold Builtin.Str.strKind
  split
  · omega
  · split <;> omega
theorem split_dots {p q : List Nat} {r : List (List Nat)} (hp : ∀ a ∈ p :: q :: r, 46 ∉ a) : Txt.split (mkS (jl (p :: q :: r))) dots = (p :: q :: r).map mkS := by
  unfold Txt.split
  have hlen : ¬ ((mkS (jl (p :: q :: r))).length < dots.length) := by
    rw [mkS_len]
    have e : dots.length = 3 := rfl
    rw [e]
    simp [jl]; omega
  rw [if_neg (by simp only [Bool.or_eq_true, decide_eq_true_eq]; exact fun c => c.elim hlen (kind_le _))]
  rw [occ_dots (by simp) hp]
  have ht : (cutsOf 0 (p :: q :: r)).take ((mkS (jl (p :: q :: r))).length + 1) = cutsOf 0 (p :: q :: r) := by
    apply List.take_of_length_le
    rw [mkS_len]
    have := cuts_len (p :: q :: r) 0
    omega
  rw [ht, if_neg (by simp [cutsOf])]
  have := parts_run (jl (p :: q :: r)) (p :: q :: r) [] (by simp) (by simp)
  unfold partsBetween
  rw [mkS_len]
  exact this
theorem has_dots {p q : List Nat} {r : List (List Nat)} (hp : ∀ a ∈ p :: q :: r, 46 ∉ a) : (occurrences (mkS (jl (p :: q :: r))) dots 0 (mkS (jl (p :: q :: r))).length 1).isEmpty = false := by
  rw [occ_dots (by simp) hp]
  rfl
end Mine

end PartPTxt
section DryPEll
local macro_rules | `(tactic| walk_at "z0") => `(tactic| skip)
theorem Mine.offPEll : True := by
  w_top off
  k_with_none
  try walk1
  trivial
end DryPEll
section PartPEll
open PySem PySem.W PyProof.Rows
set_option maxRecDepth 100000
set_option maxHeartbeats 8000000
set_option linter.unusedSectionVars false
open PySem.Flt
namespace Mine
open PyProof.Rows.LCg (NsObj lst lst_snoc ns_obj)

section
variable {prog : Program} {w : World} {A : Around} {E : Value → Shared → Prop} {s : Shared} {h₀ : Heap} {L : Addr} {m : Str → Option Value} {news : List (Addr × Obj)}
theorem split_is {x y : Str} {ps : List Str} {t u : Tok} {Q : Value → Shared → Prop} (F : Fr h₀ L s.heap m) (N : News h₀ L s.heap news) (hy : (y.length == 0) = false) (hsp : Txt.split x y = ps) (hx : x.length ≤ 1000)
    (h : ∀ D vs h' k, StrsAre vs ps → Fr h₀ L h' m → News h₀ L h' ((D, listO vs 0) :: news) → (∀ p ∈ news, p.1 < D) → Q (.ref D) { s with heap := h', toks := k }) :
    wpAny (model prog w) A (call (.builtin "str.split") [.str x t, .str y u]) Q E s :=
  KSpl.split1 F N hy (fun D l h' k e S F' N' lt => h D _ h' k (by rw [← hsp, ← e]; exact S) F' N' lt) (by rw [PySem.sizeLine_eq]; omega)
theorem truthy_st {x : Str} {t : Tok} {Q : Bool → Shared → Prop} {b : Bool} (hx : x.length ≤ 1000) (hb : decide (x.length ≠ 0) = b) (h : ∀ k, Q b { s with toks := k }) : wpAny (model prog w) A (truthy (.str x t)) Q E s := by
  refine P.truthy_str (by omega) ?_
  have e : ((x.length : Int) != 0) = b := by
    rw [← hb]
    by_cases q : x.length = 0 <;> simp [q]
  rw [e]; exact h _
theorem strs_two {vs : List Value} {a b : Str} (h : StrsAre vs [a, b]) : ∃ t u, vs = [.str a t, .str b u] := by
  cases h with
  | cons _ t h => cases h with
    | cons _ u h => cases h; exact ⟨_, _, rfl⟩
theorem from_nat (n lo : Nat) : fromIndex n (lo : Int) = lo := by
  unfold fromIndex
  rw [if_neg (by omega)]
  omega
theorem gives_find4 (x y : Str) (lo hi : Int) (t u v w : Tok) : Gives (PySem.Builtin.«str.find» ⟨[.str x t, .str y u, .int lo v, .int hi w], []⟩) (.int (match Builtin.Str.occurrences x y (fromIndex x.length lo) (min (fromIndex x.length hi) x.length) 1 with | k :: _ => (k : Int) | [] => -1)) := by
  show Gives (match Builtin.Str.occurrences x y (fromIndex x.length lo) (min (fromIndex x.length hi) x.length) 1 with | k :: _ => retInt k | [] => (do rule "str.find.not-found"; retInt (-1))) _
  cases Builtin.Str.occurrences x y (fromIndex x.length lo) (min (fromIndex x.length hi) x.length) 1 with
  | nil => exact .rule (.of_eq rfl)
  | cons k _ => exact .of_eq rfl
noncomputable def fndAt (k : Int) : List Nat → Prop
  | [] => k = -1
  | j :: _ => k = (j : Int)
theorem find4_is {x y : Str} {lo hi k : Int} {a b : Nat} {t u v w' : Tok} {Q : Value → Shared → Prop} (h1 : lo = (a : Int)) (h2 : hi = (b : Int)) (hb : b ≤ x.length) (hk : fndAt k (Builtin.Str.occurrences x y a b 1))
    (h : ∀ t' k', Q (.int k t') { s with toks := k' }) : wpAny (model prog w) A (call (.builtin "str.find") [.str x t, .str y u, .int lo v, .int hi w']) Q E s := by
  subst h1 h2
  refine call_gives F.slot_str_find (typeIs_str _ _ _) F.entry_str_find (F.args_str_find_4 _ _ _ _) (gives_find4 x y _ _ t u v w') ?_
  rw [from_nat, from_nat, Nat.min_eq_left hb]
  cases e : Builtin.Str.occurrences x y a b 1 with
  | nil => rw [e] at hk; cases hk; exact h _ _
  | cons j r => rw [e] at hk; cases hk; exact h _ _
end
local macro_rules | `(tactic| walk_at "call builtin:str.split") => `(tactic| (k_here; k_dflt (refine' split_is ?k1 ?k2 ?k3 ?k4 ?k5 ?_; (case k1 => k_asm); (case k2 => k_asm); (case k3 => rfl); (case k4 => assumption); (case k5 => omega)); (intro D9 vs9 h9 k9 S9 F9 N9 l9); (first | (obtain ⟨t9, u9, e9⟩ := strs_two S9; subst e9) | skip)))
local macro_rules | `(tactic| walk_at "truthy str") => `(tactic| (k_here; k_dflt (refine truthy_st (by omega) (by assumption) ?_); intro _))

theorem empty_of {x : Str} (h : x.length = 0) : x = Str.ofString "" := by
  apply Str.ext'
  have : x.cps.size = 0 := h
  exact Array.eq_empty_of_size_eq_zero this
theorem items_empty {vs : List Value} {i : Nat} {v : Value} (h : vs[i]? = some v) (hv : ∀ v ∈ vs, ∃ t, v = .str (Str.ofString "") t) : ∃ t, v = .str (Str.ofString "") t := hv v (List.mem_of_getElem? h)
theorem cb_retB' {h₀ h' : Heap} {L : Addr} {m : Str → Option Value} {news : List (Addr × Obj)} {s : Shared} {Q : Value → Shared → Prop} {tk' : Nat} {x y : Bool} (hret : ∀ h' tk', Fr h₀ L h' m → News h₀ L h' news → Q (.bool x) { s with heap := h', toks := tk' }) (e : y = x) (F : Fr h₀ L h' m) (N : News h₀ L h' news) : Q (.bool y) { s with heap := h', toks := tk' } := by
  subst e
  exact hret h' tk' F N
local macro_rules | `(tactic| walk_at "exec For Name Name cons nil") => `(tactic| (k_here; k_dflt (refine for_enter (by intro _; with_unfolding_all rfl) ?_)))
section
variable {w : World} {mean : ExcName → Option Value} {mg mb : Str → Option Value} {dp un : Nat} {gd : Option (List Code)} {cn : Str} {cs : Scope} {a : Addr} {ccd : Value} {cl : List (Str × Addr)} {outer : List Env} {A₀ : Around} {base h₀ : Heap} {L : Addr} {m : Str → Option Value} {news : List (Addr × Obj)} {s : Shared} {Q E : Value → Shared → Prop}
 (B : Below A₀ base outer h₀) (F : Fr h₀ L s.heap m) (X : (Mine.hd.heap_1 w.params).In h₀) (N : News h₀ L s.heap news)
 (T : Top Mine.hd.view_1 (looseW Mine.hd.view_1 [Str.ofString "insort_right", Str.ofString "bisect_right", Str.ofString "insort_left", Str.ofString "bisect_left", Str.ofString "Whitespace"]) mean mg mb h₀) (hk : cs.kind = .function) (hd : dp + 2 < recursionLimit) (hu : un + 16 < cLine)
include B F X N T hk hd hu

theorem ell_two {wt gt fr en : Str} {t1 t2 : Tok} (hw : wt.length ≤ 1000) (hg : gt.length ≤ 1000) (hf : fr.length ≤ 1000) (he : en.length ≤ 1000) (hne : (Builtin.Str.occurrences wt (Str.ofString "...") 0 wt.length 1).isEmpty = false) (hsp : Txt.split wt (Str.ofString "...") = [fr, en])
 (hbf : decide (fr.length ≠ 0) = true) (hbe : decide (en.length ≠ 0) = true)
 (hs : Txt.startswith gt fr = true) (hn : Txt.endswith gt en = true) (hs' : fr.length ≤ gt.length) (hn' : en.length ≤ gt.length)
 (ret : ∀ h' tk', Fr h₀ L h' m → News h₀ L h' news → Q (.bool (decide (fr.length + en.length ≤ gt.length))) {s with heap := h', toks := tk'})
 : wpAny (model PySem.Challenge.rw_sc0103_01.row.prog w) (ktrTop dp un gd cn cs L a ccd cl outer) (call (.ref 85) [.str wt t1, .str gt t2]) Q E s := by
  have h00 : (0 : Int) = ((0 : Nat) : Int) := rfl
  have hep : (gt.length : Int) - (en.length : Int) = ((gt.length - en.length : Nat) : Int) := by omega
  refine wpAny_call ?_
  k_dflt (refine' code_def ?k1 ?k2 ?k3 ?k4 ?k5 ?kA ?kF ?kK ?k6 ?k7 ?k8 ?k9 ?kB ?_ ?c2 ?c3 ?c4 ?c5; (case kA => exact rfl); (case kF => exact rfl); (case kK => assumption); (case k1 => k_asm); (case k2 => k_asm); (case k3 => k_asm); (case k4 => k_asm); (case k5 => k_asm); (case k6 => k_is); (case k7 => k_is); (case k8 => ktr_room); (case k9 => first | exact BindsTo.of_eq rfl | exact binds_K (by k_in) rfl (by k_is) rfl rfl rfl | (refine' binds_KW ?x1 ?x2 ?x3 ?x4 ?x5 ?x6 ?x7 ?x8; (case x1 => k_in); (case x2 => exact rfl); (case x3 => k_is); (case x4 => exact rfl); (case x5 => exact rfl); (case x6 => exact rfl); (case x7 => k_is); (case x8 => exact rfl))); (case c5 => decide); (case kB => exact locs rfl); (case c2 => exact rfl); (case c3 => exact rfl); (case c4 => exact rfl); k_whole; intro g' L' h' FG' F' N' B' X' T'; (try dsimp only); (try k_fold))
  try ((show let A0z := _; let Q0z := _; let E0z := _; wpAny _ A0z _ Q0z E0z _); intro A0z Q0z E0z)
  (k_steps <;> repeat' (first | ((k_here; (with_reducible show wpAny _ _ (call (Value.builtin "str.find") [Value.str _ _, Value.str _ _, Value.int _ _, Value.int _ _]) _ _ _); k_dflt (refine' find4_is ?h1 ?h2 ?hb ?hk ?_; (case h1 => first | exact (by assumption : (0 : Int) = ((0 : Nat) : Int)) | exact rfl | assumption); (case h2 => first | exact rfl | assumption); (case hb => omega); (case hk => first | assumption | (rw [find_empty (by omega)]; exact rfl))); intro _ _) <;> k_steps)))
  all_goals first
    | (refine cb_retB' ret ?_ (by k_asm) (cb_drop (by k_asm) (fun p hp => by simp [hp])); (have e0 : (Str.ofString "").length = 0 := rfl); symm; first | (refine decide_eq_true ?_; omega) | (refine decide_eq_false ?_; omega))
    | (refine for_list (by rfl) (by rfl) rfl (by passes_own) (JS (fun t : Tok => [(Str.ofString "startpos", Value.int (fr.length) t)]) _ (fun _ _ => True) [Str.ofString "w"] _) (by k_asm) (by k_asm) (js0 (Led := fun _ => _) _ trivial (by kst_all)) (by rintro i m' nw ⟨c, rfl, _⟩; k_mem) (step_S ?hx ?turn) (fin_S ?fin)
       case hx => (intro c p hp; obtain rfl := List.mem_singleton.mp hp; exact (by decide : Str.ofString "startpos" ≠ Str.ofString "w"))
       case turn =>
         intro i v c u It oI hp tk hi hP _ off F9 N9
         obtain ⟨tv, rfl⟩ := items_empty hP (by simp)
         try ((show let A0z := _; let Q0z := _; let E0z := _; wpAny _ A0z _ Q0z E0z _); intro A0z Q0z E0z)
         (k_steps <;> repeat' (first | ((k_here; (with_reducible show wpAny _ _ (call (Value.builtin "str.find") [Value.str _ _, Value.str _ _, Value.int _ _, Value.int _ _]) _ _ _); k_dflt (refine' find4_is ?h1 ?h2 ?hb ?hk ?_; (case h1 => first | exact (by assumption : (0 : Int) = ((0 : Nat) : Int)) | exact rfl | assumption); (case h2 => first | exact rfl | assumption); (case hb => omega); (case hk => first | assumption | (rw [find_empty (by omega)]; exact rfl))); intro _ _) <;> k_steps)))
         all_goals exact ⟨_, _, _, _, rfl, by k_asm, by k_asm, off, trivial, by kst_all, by (intro z h2 h3; (have h3' := h3); (simp only [List.forall_mem_cons, List.not_mem_nil, false_implies, implies_true, and_true, ne_eq] at h2); (simp only [List.contains_cons, List.contains_nil, Bool.or_false, Bool.or_eq_false_iff, beq_eq_false_iff_ne, ne_eq] at h3); simp only [mapS, kstB, h2, h3, h3', if_false, Bool.false_eq_true])⟩
       case fin =>
         intro c u hp tk _ F9 N9
         try ((show let A0z := _; let Q0z := _; let E0z := _; wpAny _ A0z _ Q0z E0z _); intro A0z Q0z E0z)
         (k_steps <;> repeat' (first | ((k_here; (with_reducible show wpAny _ _ (call (Value.builtin "str.find") [Value.str _ _, Value.str _ _, Value.int _ _, Value.int _ _]) _ _ _); k_dflt (refine' find4_is ?h1 ?h2 ?hb ?hk ?_; (case h1 => first | exact (by assumption : (0 : Int) = ((0 : Nat) : Int)) | exact rfl | assumption); (case h2 => first | exact rfl | assumption); (case hb => omega); (case hk => first | assumption | (rw [find_empty (by omega)]; exact rfl))); intro _ _) <;> k_steps)))
         all_goals (refine cb_retB' ret ?_ (by k_asm) (cb_drop (by k_asm) (fun p hp => by simp [hp])); (have e0 : (Str.ofString "").length = 0 := rfl); symm; first | (refine decide_eq_true ?_; omega) | (refine decide_eq_false ?_; omega)))

end
end Mine

end PartPEll
section DryPElm
local macro_rules | `(tactic| walk_at "z0") => `(tactic| skip)
theorem Mine.offPElm : True := by
  w_top off
  k_with_none
  try walk1
  trivial
end DryPElm
section PartPElm
open PySem PySem.W PyProof.Rows
set_option maxRecDepth 100000
set_option maxHeartbeats 8000000
set_option linter.unusedSectionVars false
open PySem.Flt
namespace Mine
local macro_rules | `(tactic| walk_at "oc") => `(tactic| first | exact Mine.o_c0 ‹_› | exact Mine.o_c1 ‹_› | exact Mine.o_c2 ‹_› | exact Mine.o_c3 ‹_› | exact Mine.o_c4 ‹_› | exact Mine.o_c5 ‹_› | exact Mine.o_c6 ‹_› | exact Mine.o_c7 ‹_› | exact Mine.o_c8 ‹_› | exact Mine.o_c9 ‹_› | exact Mine.o_c10 ‹_› | exact Mine.o_c11 ‹_› | exact Mine.o_c12 ‹_› | exact Mine.o_c13 ‹_› | fail)
open PyProof.Rows.LCg (NsObj lst lst_snoc ns_obj)

noncomputable def subB : List Bool → List Bool → Bool
  | [], _ => true
  | c :: r, bs => match after c bs with | none => false | some l => subB r l
theorem em1 {n sp r : Nat} (h : r < n - sp) : ((n - r : Nat) : Int) - 1 = ((n - r - 1 : Nat) : Int) := by omega
theorem em2 {n sp r : Nat} (h : r < n - sp) : sp + (n - sp - r) = n - r := by omega
theorem em3 {n sp r : Nat} (h : r < n - sp) : ¬ (((n - r : Nat) : Int) - 1 < 0) := by omega
theorem em4 {n : Nat} (h : 0 < n) : ((-1 : Int) + (n : Int)).toNat = n - 1 := by
  cases n with
  | zero => cases h
  | succ k =>
    have e : (-1 : Int) + ((k + 1 : Nat) : Int) = (k : Int) := by rw [Int.add_comm, Int.natCast_succ]; exact Int.add_neg_cancel_right _ _
    rw [e]; rfl
section
variable {prog : Program} {w : World} {A : Around} {E : Value → Shared → Prop} {s : Shared} {h₀ : Heap} {L : Addr} {m : Str → Option Value} {news : List (Addr × Obj)}
theorem item_first {value slice : PySem.Expr} {l : Addr} {vs : List Value} {kk : Nat} {u : Tok} {v : Value} {Q : Value → Shared → Prop} (N : News h₀ L s.heap news) (hl : (l, listO vs kk) ∈ news) (e : vs[0]? = some v) (h : Q v s)
    (hs : subscripted slice false (.ref l) (.int 0 u) = operate [.ref l, .int 0 u] (getItem (.ref l) (.int 0 u)) := by with_unfolding_all rfl) :
    wpAny (model prog w) A (subscriptTail value slice (.ref l) (.int 0 u)) Q E s := by
  have hL : s.heap.IsList l vs.toArray := ⟨_, (N _ hl).1, rfl, _, rfl⟩
  exact tail_any hL.typeIs slot_list_getitem.lookup (wpAny_getItem_list hL (by decide) (by decide) (by simpa using e) h) hs
theorem item_last {value slice : PySem.Expr} {l : Addr} {vs : List Value} {kk : Nat} {u : Tok} {v : Value} {Q : Value → Shared → Prop} (N : News h₀ L s.heap news) (hl : (l, listO vs kk) ∈ news) (e : vs[vs.length - 1]? = some v) (h0 : 0 < vs.length) (h : Q v s)
    (hs : subscripted slice false (.ref l) (.int (-1) u) = operate [.ref l, .int (-1) u] (getItem (.ref l) (.int (-1) u)) := by with_unfolding_all rfl) :
    wpAny (model prog w) A (subscriptTail value slice (.ref l) (.int (-1) u)) Q E s := by
  have hL : s.heap.IsList l vs.toArray := ⟨_, (N _ hl).1, rfl, _, rfl⟩
  refine tail_any hL.typeIs slot_list_getitem.lookup (wpAny_getItem_list_neg hL (by decide) (by rw [List.size_toArray]; omega) (by decide) ?_ h) hs
  have e2 : ((-1 : Int) + (vs.toArray.size : Int)).toNat = vs.length - 1 := by rw [List.size_toArray]; exact em4 h0
  rw [e2]; simpa using e
end
section
variable {prog : Program} {w : World} {A : Around} {E : Value → Shared → Prop} {s : Shared}
theorem len_tx {bs : List Bool} {t : Tok} {Q : Value → Shared → Prop} (hb : bs.length ≤ 1000) (h : ∀ t' k, Q (.int (bs.length : Int) t') { s with toks := k }) : wpAny (model prog w) A (call (.builtin "len") [.str (tx bs) t]) Q E s := by
  refine P.len_str (by rw [tx_len]; omega) ?_
  rw [tx_len]
  exact h _ _
end
theorem turn_ret {σ : Type} {ps : σ → List (Str × Value)} {Led : σ → List (Addr × Obj)} {I : σ → Prop} {stored : List Str} {m₀ : Str → Option Value} {h₀ : Heap} {L : Addr} {s₁ s₂ : Shared} {It : Addr} {oI : Obj} {Q : Flow → Shared → Prop} {v : Value} (h : Q (.ret v) s₂) : TurnS ps Led I stored m₀ h₀ L s₁ It oI Q (.ret v) s₂ := h
theorem strs_get {vs : List Value} {ps : List Str} (h : StrsAre vs ps) {j : Nat} {y : Str} (e : ps[j]? = some y) : ∃ t, vs[j]? = some (.str y t) := StrsAre.at h e
theorem parts_get {mid : List Bool} {j : Nat} (h : j < mid.length) : (Str.ofString "" :: (mid.map (fun c => tx [c]) ++ [Str.ofString ""]))[j + 1]? = some (tx [mid[j]]) := by
  rw [List.getElem?_cons_succ, List.getElem?_append_left (by simpa using h)]
  simp [h]
theorem parts_end {mid : List Bool} : (Str.ofString "" :: (mid.map (fun c => tx [c]) ++ [Str.ofString ""]))[mid.length + 1]? = some (Str.ofString "") := by
  rw [List.getElem?_cons_succ, List.getElem?_append_right (by simp)]
  simp
theorem strs_last {vs : List Value} {mid : List Bool} (h : StrsAre vs (Str.ofString "" :: (mid.map (fun c => tx [c]) ++ [Str.ofString ""]))) : ∃ t, vs[vs.length - 1]? = some (.str (Str.ofString "") t) := by
  obtain ⟨t, e⟩ := strs_get h parts_end
  have l := StrsAre.len_eq h
  simp at l
  exact ⟨t, by rw [l]; exact e⟩

local macro_rules | `(tactic| walk_at "call builtin:str.split") => `(tactic| (k_here; k_dflt (refine' split_is ?k1 ?k2 ?k3 ?k4 ?k5 ?_; (case k1 => k_asm); (case k2 => k_asm); (case k3 => rfl); (case k4 => assumption); (case k5 => omega)); (intro D9 vs9 h9 k9 S9 F9 N9 l9); (have L9 := StrsAre.len_eq S9); (simp only [List.length_cons, List.length_append, List.length_map, List.length_nil] at L9); (obtain ⟨t9, e9⟩ := strs_get S9 (j := 0) rfl); (obtain ⟨u9, f9⟩ := strs_last S9)))
local macro_rules | `(tactic| walk_at "call builtin:len") => `(tactic| (k_here; (with_reducible show wpAny _ _ (call (Value.builtin "len") [Value.ref _]) _ _ _); k_dflt (refine' len_led ?k1 ?k2 ?k3 ?_; (case k1 => k_asm); (case k2 => k_mem); (case k3 => omega)); intro _ _))
local macro_rules | `(tactic| walk_at "call builtin:len") => `(tactic| (k_here; (with_reducible show wpAny _ _ (call (Value.builtin "len") [Value.str (tx _) _]) _ _ _); k_dflt (refine len_tx (by first | assumption | exact Nat.le_of_ble_eq_true rfl) ?_); intro _ _))
local macro_rules | `(tactic| walk_at "subscriptTail Name Constant ref int") => `(tactic| (k_here; k_dflt (refine item_first (by k_asm) (by k_mem) (by assumption) ?_)))
local macro_rules | `(tactic| walk_at "subscriptTail Name UnaryOp ref int") => `(tactic| (k_here; k_dflt (refine item_last (by k_asm) (by k_mem) (by assumption) (by omega) ?_)))
local macro_rules | `(tactic| walk_at "exec For Name Name cons nil") => `(tactic| (k_here; k_dflt (refine for_enter (by intro _; with_unfolding_all rfl) ?_)))
section
variable {w : World} {mean : ExcName → Option Value} {mg mb : Str → Option Value} {dp un : Nat} {gd : Option (List Code)} {cn : Str} {cs : Scope} {a : Addr} {ccd : Value} {cl : List (Str × Addr)} {outer : List Env} {A₀ : Around} {base h₀ : Heap} {L : Addr} {m : Str → Option Value} {news : List (Addr × Obj)} {s : Shared} {Q E : Value → Shared → Prop}
 (B : Below A₀ base outer h₀) (F : Fr h₀ L s.heap m) (X : (Mine.hd.heap_1 w.params).In h₀) (N : News h₀ L s.heap news)
 (T : Top Mine.hd.view_1 (looseW Mine.hd.view_1 [Str.ofString "insort_right", Str.ofString "bisect_right", Str.ofString "insort_left", Str.ofString "bisect_left", Str.ofString "Whitespace"]) mean mg mb h₀) (hk : cs.kind = .function) (hd : dp + 2 < recursionLimit) (hu : un + 16 < cLine)
include B F X N T hk hd hu

theorem ell_many {wt : Str} {bs mid : List Bool} {t1 t2 : Tok} (hw : wt.length ≤ 1000) (hg : bs.length ≤ 1000) (hmid : mid.length ≤ 1000) (hne : (Builtin.Str.occurrences wt (Str.ofString "...") 0 wt.length 1).isEmpty = false) (hsp : Txt.split wt (Str.ofString "...") = Str.ofString "" :: (mid.map (fun c => tx [c]) ++ [Str.ofString ""]))
 (ret : ∀ h' tk', Fr h₀ L h' m → News h₀ L h' news → Q (.bool (subB mid bs)) {s with heap := h', toks := tk'})
 : wpAny (model PySem.Challenge.rw_sc0103_01.row.prog w) (ktrTop dp un gd cn cs L a ccd cl outer) (call (.ref 85) [.str wt t1, .str (tx bs) t2]) Q E s := by
  have hg' : (tx bs).length = bs.length := tx_len bs
  have hg2 : bs.length ≤ (tx bs).length := Nat.le_of_eq hg'.symm
  refine wpAny_call ?_
  k_dflt (refine' code_def ?k1 ?k2 ?k3 ?k4 ?k5 ?kA ?kF ?kK ?k6 ?k7 ?k8 ?k9 ?kB ?_ ?c2 ?c3 ?c4 ?c5; (case kA => exact rfl); (case kF => exact rfl); (case kK => assumption); (case k1 => k_asm); (case k2 => k_asm); (case k3 => k_asm); (case k4 => k_asm); (case k5 => k_asm); (case k6 => k_is); (case k7 => k_is); (case k8 => ktr_room); (case k9 => first | exact BindsTo.of_eq rfl | exact binds_K (by k_in) rfl (by k_is) rfl rfl rfl | (refine' binds_KW ?x1 ?x2 ?x3 ?x4 ?x5 ?x6 ?x7 ?x8; (case x1 => k_in); (case x2 => exact rfl); (case x3 => k_is); (case x4 => exact rfl); (case x5 => exact rfl); (case x6 => exact rfl); (case x7 => k_is); (case x8 => exact rfl))); (case c5 => decide); (case kB => exact locs rfl); (case c2 => exact rfl); (case c3 => exact rfl); (case c4 => exact rfl); k_whole; intro g' L' h' FG' F' N' B' X' T'; (try dsimp only); (try k_fold))
  try ((show let A0z := _; let Q0z := _; let E0z := _; wpAny _ A0z _ Q0z E0z _); intro A0z Q0z E0z)
  (k_steps <;> repeat' (first | ((k_here; (with_reducible show wpAny _ _ (call (Value.builtin "str.find") [Value.str _ _, Value.str _ _, Value.int _ _, Value.int _ _]) _ _ _); k_dflt (refine' find4_is ?h1 ?h2 ?hb ?hk ?_; (case h1 => first | exact (by assumption : (0 : Int) = ((0 : Nat) : Int)) | exact rfl | assumption); (case h2 => first | exact rfl | assumption); (case hb => omega); (case hk => first | assumption | (rw [find_empty (by omega)]; exact rfl))); intro _ _) <;> k_steps) | ((k_here; (with_reducible show wpAny _ _ (truthy (Value.str _ _)) _ _ _); k_dflt (refine truthy_st (b := false) (by exact Nat.zero_le _) rfl ?_); intro _) <;> k_steps)))
  rename StrsAre _ _ => S9
  have L9 := StrsAre.len_eq S9
  simp only [List.length_cons, List.length_append, List.length_map, List.length_nil] at L9
  refine for_list (by rfl) (by rfl) rfl (by passes_own) (JS (fun c : Int × Tok => [(Str.ofString "startpos", Value.int c.1 c.2)]) _ (fun i c => ∃ sp : Nat, c.1 = (sp : Int) ∧ sp ≤ bs.length ∧ (i = 0 → sp = 0) ∧ subB mid bs = subB (mid.drop (i - 1)) (bs.drop sp)) [Str.ofString "w"] _) (by k_asm) (by k_asm) (js0 (Led := fun _ => _) (0, _) ⟨0, rfl, Nat.zero_le _, fun _ => rfl, rfl⟩ (by kst_all)) (by rintro i m' nw ⟨c, rfl, _⟩; k_mem) (step_S ?hx ?turn) (fin_S ?fin)
  case hx => (intro c p hp; obtain rfl := List.mem_singleton.mp hp; exact (by decide : Str.ofString "startpos" ≠ Str.ofString "w"))
  case turn =>
    rintro i v ⟨spi, tc⟩ u It oI hp tk hi hP ⟨sp, hspi, hc1, hc0, hsub⟩ off F9 N9
    dsimp only at hspi F9
    subst hspi
    rcases i with _ | j
    · obtain ⟨t, e⟩ := strs_get S9 (j := 0) rfl
      rw [hP] at e; cases e
      obtain rfl := hc0 rfl
      try ((show let A0z := _; let Q0z := _; let E0z := _; wpAny _ A0z _ Q0z E0z _); intro A0z Q0z E0z)
      (k_steps <;> repeat' (first | ((k_here; (with_reducible show wpAny _ _ (call (Value.builtin "str.find") [Value.str _ _, Value.str _ _, Value.int _ _, Value.int _ _]) _ _ _); k_dflt (refine' find4_is ?h1 ?h2 ?hb ?hk ?_; (case h1 => first | exact (by assumption : (0 : Int) = ((0 : Nat) : Int)) | exact rfl | assumption); (case h2 => first | exact rfl | assumption); (case hb => omega); (case hk => first | assumption | (rw [find_empty (by omega)]; exact rfl))); intro _ _) <;> k_steps) | ((k_here; (with_reducible show wpAny _ _ (truthy (Value.str _ _)) _ _ _); k_dflt (refine truthy_st (b := false) (by exact Nat.zero_le _) rfl ?_); intro _) <;> k_steps)))
      all_goals exact ⟨(_, _), _, _, _, rfl, by k_asm, by k_asm, off, ⟨0, rfl, Nat.zero_le _, fun h => absurd h (Nat.succ_ne_zero _), hsub⟩, by kst_all, by (intro z h2 h3; (have h3' := h3); (simp only [List.forall_mem_cons, List.not_mem_nil, false_implies, implies_true, and_true, ne_eq] at h2); (simp only [List.contains_cons, List.contains_nil, Bool.or_false, Bool.or_eq_false_iff, beq_eq_false_iff_ne, ne_eq] at h3); simp only [mapS, kstB, h2, h3, h3', if_false, Bool.false_eq_true])⟩
    · by_cases hj : j < mid.length
      · obtain ⟨t, e⟩ := strs_get S9 (parts_get hj)
        rw [hP] at e; cases e
        have hd : mid.drop j = mid[j] :: mid.drop (j + 1) := List.drop_eq_getElem_cons hj
        rw [Nat.add_sub_cancel, hd, subB] at hsub
        cases ha : after mid[j] (bs.drop sp) with
        | none =>
          rw [ha] at hsub
          have hk9 : fndAt (-1) (Builtin.Str.occurrences (tx bs) (tx [mid[j]]) sp bs.length 1) := by rw [find_one hc1, ha]; rfl
          try ((show let A0z := _; let Q0z := _; let E0z := _; wpAny _ A0z _ Q0z E0z _); intro A0z Q0z E0z)
          (k_steps <;> repeat' (first | ((k_here; (with_reducible show wpAny _ _ (call (Value.builtin "str.find") [Value.str _ _, Value.str _ _, Value.int _ _, Value.int _ _]) _ _ _); k_dflt (refine' find4_is ?h1 ?h2 ?hb ?hk ?_; (case h1 => first | exact (by assumption : (0 : Int) = ((0 : Nat) : Int)) | exact rfl | assumption); (case h2 => first | exact rfl | assumption); (case hb => omega); (case hk => first | assumption | (rw [find_empty (by omega)]; exact rfl))); intro _ _) <;> k_steps) | ((k_here; (with_reducible show wpAny _ _ (truthy (Value.str _ _)) _ _ _); k_dflt (refine truthy_st (b := false) (by exact Nat.zero_le _) rfl ?_); intro _) <;> k_steps)))
          all_goals (refine turn_ret ?_)
          all_goals (k_steps <;> repeat' (first | ((k_here; (with_reducible show wpAny _ _ (call (Value.builtin "str.find") [Value.str _ _, Value.str _ _, Value.int _ _, Value.int _ _]) _ _ _); k_dflt (refine' find4_is ?h1 ?h2 ?hb ?hk ?_; (case h1 => first | exact (by assumption : (0 : Int) = ((0 : Nat) : Int)) | exact rfl | assumption); (case h2 => first | exact rfl | assumption); (case hb => omega); (case hk => first | assumption | (rw [find_empty (by omega)]; exact rfl))); intro _ _) <;> k_steps) | ((k_here; (with_reducible show wpAny _ _ (truthy (Value.str _ _)) _ _ _); k_dflt (refine truthy_st (b := false) (by exact Nat.zero_le _) rfl ?_); intro _) <;> k_steps)))
          all_goals exact cb_retB' ret (by rw [hsub]) (by k_asm) (cb_drop (by k_asm) (fun p hp => by simp [hp]))
        | some r =>
          rw [ha] at hsub
          have hr := after_len ha
          have hr2 := after_drop ha
          rw [List.length_drop] at hr hr2
          rw [List.drop_drop] at hr2
          have hk9 : fndAt (((bs.length - r.length : Nat) : Int) - 1) (Builtin.Str.occurrences (tx bs) (tx [mid[j]]) sp bs.length 1) := by
            rw [find_one hc1, ha]
            show _ = ((bs.length - r.length - 1 : Nat) : Int)
            exact em1 hr
          have hn9 := em3 hr
          try ((show let A0z := _; let Q0z := _; let E0z := _; wpAny _ A0z _ Q0z E0z _); intro A0z Q0z E0z)
          (k_steps <;> repeat' (first | ((k_here; (with_reducible show wpAny _ _ (call (Value.builtin "str.find") [Value.str _ _, Value.str _ _, Value.int _ _, Value.int _ _]) _ _ _); k_dflt (refine' find4_is ?h1 ?h2 ?hb ?hk ?_; (case h1 => first | exact (by assumption : (0 : Int) = ((0 : Nat) : Int)) | exact rfl | assumption); (case h2 => first | exact rfl | assumption); (case hb => omega); (case hk => first | assumption | (rw [find_empty (by omega)]; exact rfl))); intro _ _) <;> k_steps) | ((k_here; (with_reducible show wpAny _ _ (truthy (Value.str _ _)) _ _ _); k_dflt (refine truthy_st (b := false) (by exact Nat.zero_le _) rfl ?_); intro _) <;> k_steps)))
          all_goals exact ⟨(((bs.length - r.length : Nat) : Int) - 1 + (([mid[j]].length : Nat) : Int), _), _, _, _, rfl, by k_asm, by k_asm, off, ⟨bs.length - r.length, by (show (_ : Int) - 1 + ((1 : Nat) : Int) = _); exact Int.sub_add_cancel _ _, Nat.sub_le _ _, fun h => absurd h (Nat.succ_ne_zero _), by
            rw [hsub]
            have e2 : sp + (bs.length - sp - r.length) = bs.length - r.length := em2 hr
            rw [e2] at hr2
            rw [hr2]; rfl⟩, by kst_all, by (intro z h2 h3; (have h3' := h3); (simp only [List.forall_mem_cons, List.not_mem_nil, false_implies, implies_true, and_true, ne_eq] at h2); (simp only [List.contains_cons, List.contains_nil, Bool.or_false, Bool.or_eq_false_iff, beq_eq_false_iff_ne, ne_eq] at h3); simp only [mapS, kstB, h2, h3, h3', if_false, Bool.false_eq_true])⟩
      · obtain rfl : j = mid.length := by omega
        obtain ⟨t, e⟩ := strs_get S9 parts_end
        rw [hP] at e; cases e
        have z1 : mid.drop (mid.length + 1 - 1) = [] := List.drop_eq_nil_of_le (Nat.le_refl _)
        have z2 : mid.drop (mid.length + 1 + 1 - 1) = [] := List.drop_eq_nil_of_le (Nat.le_succ _)
        try ((show let A0z := _; let Q0z := _; let E0z := _; wpAny _ A0z _ Q0z E0z _); intro A0z Q0z E0z)
        (k_steps <;> repeat' (first | ((k_here; (with_reducible show wpAny _ _ (call (Value.builtin "str.find") [Value.str _ _, Value.str _ _, Value.int _ _, Value.int _ _]) _ _ _); k_dflt (refine' find4_is ?h1 ?h2 ?hb ?hk ?_; (case h1 => first | exact (by assumption : (0 : Int) = ((0 : Nat) : Int)) | exact rfl | assumption); (case h2 => first | exact rfl | assumption); (case hb => omega); (case hk => first | assumption | (rw [find_empty (by omega)]; exact rfl))); intro _ _) <;> k_steps) | ((k_here; (with_reducible show wpAny _ _ (truthy (Value.str _ _)) _ _ _); k_dflt (refine truthy_st (b := false) (by exact Nat.zero_le _) rfl ?_); intro _) <;> k_steps)))
        all_goals exact ⟨(_, _), _, _, _, rfl, by k_asm, by k_asm, off, ⟨sp, rfl, hc1, fun h => absurd h (Nat.succ_ne_zero _), by rw [hsub, z1, z2]⟩, by kst_all, by (intro z h2 h3; (have h3' := h3); (simp only [List.forall_mem_cons, List.not_mem_nil, false_implies, implies_true, and_true, ne_eq] at h2); (simp only [List.contains_cons, List.contains_nil, Bool.or_false, Bool.or_eq_false_iff, beq_eq_false_iff_ne, ne_eq] at h3); simp only [mapS, kstB, h2, h3, h3', if_false, Bool.false_eq_true])⟩
  case fin =>
    rintro ⟨spi, tc⟩ u hp tk ⟨sp, hspi, hc1, hc0, hsub⟩ F9 N9
    try ((show let A0z := _; let Q0z := _; let E0z := _; wpAny _ A0z _ Q0z E0z _); intro A0z Q0z E0z)
    (k_steps <;> repeat' (first | ((k_here; (with_reducible show wpAny _ _ (call (Value.builtin "str.find") [Value.str _ _, Value.str _ _, Value.int _ _, Value.int _ _]) _ _ _); k_dflt (refine' find4_is ?h1 ?h2 ?hb ?hk ?_; (case h1 => first | exact (by assumption : (0 : Int) = ((0 : Nat) : Int)) | exact rfl | assumption); (case h2 => first | exact rfl | assumption); (case hb => omega); (case hk => first | assumption | (rw [find_empty (by omega)]; exact rfl))); intro _ _) <;> k_steps) | ((k_here; (with_reducible show wpAny _ _ (truthy (Value.str _ _)) _ _ _); k_dflt (refine truthy_st (b := false) (by exact Nat.zero_le _) rfl ?_); intro _) <;> k_steps)))
    all_goals exact cb_retB' ret (by rw [hsub, List.drop_eq_nil_of_le (by omega)]; rfl) (by k_asm) (cb_drop (by k_asm) (fun p hp => by simp [hp]))

end
end Mine

end PartPElm
section DryPWs
local macro_rules | `(tactic| walk_at "z0") => `(tactic| skip)
theorem Mine.offPWs : True := by
  w_top off
  k_with_none
  try walk1
  trivial
end DryPWs
section PartPWs
open PySem PySem.W PyProof.Rows
set_option maxRecDepth 100000
set_option maxHeartbeats 8000000
set_option linter.unusedSectionVars false
open PySem.Flt
namespace Mine
open PyProof.Rows.LCg (NsObj lst lst_snoc ns_obj)

noncomputable def addAt (c : List Int) (b : Nat) : List Int :=
  let d := if c.length ≤ b then c ++ List.replicate (b - c.length + 1) 0 else c
  d.set b (d.getD b 0 + 1)
noncomputable def wsRun : List Bool → List Int × Nat → List Int × Nat
  | [], st => st
  | false :: r, (c, b) => wsRun r (c, b + 1)
  | true :: r, (c, b) => wsRun r (addAt c b, 0)
theorem wsRun_snoc : ∀ (l : List Bool) (x : Bool) (st : List Int × Nat), wsRun (l ++ [x]) st = wsRun [x] (wsRun l st)
  | [], _, _ => rfl
  | false :: l, x, (c, b) => wsRun_snoc l x (c, b + 1)
  | true :: l, x, (c, b) => wsRun_snoc l x (addAt c b, 0)
theorem wsRun_f (st : List Int × Nat) : wsRun [false] st = (st.1, st.2 + 1) := by cases st; rfl
theorem wsRun_t (st : List Int × Nat) : wsRun [true] st = (addAt st.1 st.2, 0) := by cases st; rfl
structure WSt where
  D : Addr
  cv : List Value
  kk : Nat
  b : Int
  n : Int
  nt : Int
  tb : Tok
  tn : Tok
  tt : Tok
noncomputable def wsPs (c : WSt) : List (Str × Value) := [(Str.ofString "count", .ref c.D), (Str.ofString "b", .int c.b c.tb), (Str.ofString "n", .int c.n c.tn), (Str.ofString "nt", .int c.nt c.tt)]
noncomputable def wsI (bs : List Bool) (base : List (Addr × Obj)) (i : Nat) (c : WSt) : Prop :=
  i ≤ bs.length ∧ IntsAre c.cv (wsRun (bs.take i) ([], 0)).1 ∧ c.b = ((wsRun (bs.take i) ([], 0)).2 : Int) ∧ c.n = (i : Int) ∧ c.nt = (((bs.take i).countP (· = true) : Nat) : Int) ∧ ∀ p ∈ base, p.1 ≠ c.D
theorem turn_brk {σ : Type} {ps : σ → List (Str × Value)} {Led : σ → List (Addr × Obj)} {I : σ → Prop} {stored : List Str} {m₀ : Str → Option Value} {h₀ : Heap} {L : Addr} {s₁ s₂ : Shared} {It : Addr} {oI : Obj} {Q : Flow → Shared → Prop} (h : Q .next s₂) : TurnS ps Led I stored m₀ h₀ L s₁ It oI Q .brk s₂ := h
theorem news_ne {h₀ h : Heap} {L a b : Addr} {oa ob : Obj} {news : List (Addr × Obj)} (N : News h₀ L h news) (ha : (a, oa) ∈ news) (hb : (b, ob) ∈ news) (hn : oa.cls ≠ ob.cls) : a ≠ b := by
  intro e
  subst e
  have h1 := (N _ ha).1
  have h2 := (N _ hb).1
  rw [h1] at h2
  cases h2
  exact hn rfl
theorem endS {σ : Type} {ps : σ → List (Str × Value)} {Led : σ → List (Addr × Obj)} {I : σ → Prop} {stored : List Str} {m₀ m₂ : Str → Option Value} {h₀ h' : Heap} {L : Addr} {s₁ : Shared} {It : Addr} {oI : Obj} {Q : Flow → Shared → Prop} {tk : Nat} {c : σ} (F : Fr h₀ L h' m₂) (h1 : ∀ p ∈ ps c, m₂ p.1 = some p.2) (h2 : SameOff stored (ps c) m₂ m₀) (N : News h₀ L h' ((It, oI) :: Led c)) (off : ∀ p ∈ Led c, p.1 ≠ It) (hI : I c) :
    TurnS ps Led I stored m₀ h₀ L s₁ It oI Q .next { s₁ with heap := h', toks := tk } := ⟨c, h', tk, m₂, rfl, F, N, off, hI, h1, h2⟩
theorem split_led {h₀ h : Heap} {L : Addr} {p : Addr × Obj} {r : List (Addr × Obj)} (N : News h₀ L h (p :: r)) : ∃ base, base = r ∧ News h₀ L h (p :: base) := ⟨_, rfl, N⟩
theorem allLt_mem {d : Addr} : ∀ {l : List (Addr × Obj)}, AllLt d l → ∀ p ∈ l, p.1 ≠ d
  | [], _, p, hp => nomatch hp
  | q :: l, h, p, hp => by
    rcases List.mem_cons.mp hp with rfl | hp
    · exact Nat.ne_of_lt h.1
    · exact allLt_mem h.2 p hp
theorem allLt_base {d : Addr} {base r : List (Addr × Obj)} (e : base = r) (h : AllLt d r) : AllLt d base := e ▸ h
theorem addAt_len (c : List Int) (b : Nat) : (addAt c b).length ≤ max c.length (b + 1) := by
  unfold addAt
  dsimp only
  split <;> simp <;> omega
theorem ws_len_run : ∀ (l : List Bool) (c : List Int) (b k : Nat), c.length ≤ k → b ≤ k → (wsRun l (c, b)).1.length ≤ k + l.length ∧ (wsRun l (c, b)).2 ≤ k + l.length
  | [], c, b, k, h1, h2 => ⟨h1, h2⟩
  | false :: l, c, b, k, h1, h2 => by
    have := ws_len_run l c (b + 1) (k + 1) (by omega) (by omega)
    simp only [wsRun, List.length_cons]
    omega
  | true :: l, c, b, k, h1, h2 => by
    have h3 := addAt_len c b
    have := ws_len_run l (addAt c b) 0 (k + 1) (by omega) (by omega)
    simp only [wsRun, List.length_cons]
    omega
theorem ws_len (l : List Bool) : (wsRun l ([], 0)).1.length ≤ l.length ∧ (wsRun l ([], 0)).2 ≤ l.length := by
  have := ws_len_run l [] 0 0 (Nat.le_refl _) (Nat.le_refl _)
  omega
theorem flat_one : ∀ n : Nat, (List.replicate n [(0 : Int)]).flatten = List.replicate n 0
  | 0 => rfl
  | n + 1 => by rw [List.replicate_succ, List.flatten_cons, flat_one n]; rfl
theorem addAt_hi {c : List Int} {b n : Nat} (hn : n = c.length) (h : n ≤ b) : addAt c b = ((c ++ (List.replicate ((b : Int) - (n : Int) + 1).toNat [0]).flatten).set ((b : Int)).toNat ((c ++ (List.replicate ((b : Int) - (n : Int) + 1).toNat [0]).flatten).getD ((b : Int)).toNat 0 + 1)) := by
  have e1 : ((b : Int) - (n : Int) + 1).toNat = b - c.length + 1 := by omega
  have e2 : ((b : Int)).toNat = b := by omega
  rw [e1, e2, flat_one]
  unfold addAt
  dsimp only
  rw [if_pos (by omega)]
theorem addAt_lo {c : List Int} {b : Nat} (h : b < c.length) : addAt c b = (c.set ((b : Int)).toNat (c.getD ((b : Int)).toNat 0 + 1)) := by
  have e2 : ((b : Int)).toNat = b := by omega
  rw [e2]
  unfold addAt
  dsimp only
  rw [if_neg (by omega)]
theorem raw_ascii (bs : List Bool) : (tx bs ++ Str.ofString "x 	").cps.all (· < 128) = true := by
  rw [Str.cps_append, Array.all_append]
  have h : (tx bs).cps.all (· < 128) = true := by
    rw [Array.all_eq_true_iff_forall_mem]
    intro x hx
    have : x ∈ bs.map ch := by simpa [tx] using hx
    obtain ⟨b, _, rfl⟩ := List.mem_map.mp this
    cases b <;> decide
  rw [h]; decide +kernel
theorem raw_size (bs : List Bool) : (tx bs ++ Str.ofString "x 	").cps.size = bs.length + 3 := by
  rw [Str.cps_append, Array.size_append]
  simp [tx]
  decide +kernel
theorem raw_at {bs : List Bool} {i : Nat} (h : i < bs.length) : (tx bs ++ Str.ofString "x 	").cps[i]? = some (ch bs[i]) := by
  rw [Str.cps_append, Array.getElem?_append_left (by simpa [tx] using h)]
  simp [tx, h]
theorem raw_x {bs : List Bool} : (tx bs ++ Str.ofString "x 	").cps[bs.length]? = some 120 := by
  rw [Str.cps_append, Array.getElem?_append_right (by simp [tx])]
  simp [tx]
  decide +kernel
local macro_rules | `(tactic| k_ne) => `(tactic| (exact news_ne (by with_reducible assumption) (by k_mem) (by k_mem) (by show Value.type _ ≠ Value.type _; decide)))
local macro_rules | `(tactic| k_all) => `(tactic| assumption)
local macro_rules | `(tactic| walk_at "call builtin:len") => `(tactic| (k_here; (with_reducible show wpAny _ _ (call (Value.builtin "len") [Value.ref _]) _ _ _); k_dflt (refine' len_led ?k1 ?k2 ?k3 ?_; (case k1 => k_asm); (case k2 => k_mem); (case k3 => omega)); intro _ _))
local macro_rules | `(tactic| walk_at "exec For Name Attribute cons nil") => `(tactic| (k_here; k_dflt (refine for_enter (by intro _; with_unfolding_all rfl) ?_)))
section
variable {w : World} {mean : ExcName → Option Value} {mg mb : Str → Option Value} {dp un : Nat} {gd : Option (List Code)} {cn : Str} {cs : Scope} {a : Addr} {ccd : Value} {cl : List (Str × Addr)} {outer : List Env} {A₀ : Around} {base h₀ : Heap} {L : Addr} {m : Str → Option Value} {news : List (Addr × Obj)} {s : Shared} {Q E : Value → Shared → Prop}
 (B : Below A₀ base outer h₀) (F : Fr h₀ L s.heap m) (X : (Mine.hd.heap_1 w.params).In h₀) (N : News h₀ L s.heap news)
 (T : Top Mine.hd.view_1 (looseW Mine.hd.view_1 [Str.ofString "insort_right", Str.ofString "bisect_right", Str.ofString "insort_left", Str.ofString "bisect_left", Str.ofString "Whitespace"]) mean mg mb h₀) (hk : cs.kind = .function) (hd : dp + 2 < recursionLimit) (hu : un + 16 < cLine)
include B F X N T hk hd hu

theorem ws_c {bs : List Bool} {t : Tok} (hb : bs.length ≤ 100)
 (ret : ∀ h' tk' o dx nm ct cv k1 k2 k3 k4 k5 tn tt tb sb kk, Fr h₀ L h' m → News h₀ L h' ((nm, tupO [.ref ct, .int ((wsRun bs ([], 0)).2 : Int) tb]) :: (ct, tupO cv) :: (o, instObj 147 dx) :: (dx, dictOf [⟨PyData.keyHash w.params (Str.ofString "raw"), .str (Str.ofString "raw") k1, .str (tx bs ++ Str.ofString "x \t") t⟩, ⟨PyData.keyHash w.params (Str.ofString "n"), .str (Str.ofString "n") k2, .int (bs.length : Int) tn⟩, ⟨PyData.keyHash w.params (Str.ofString "nt"), .str (Str.ofString "nt") k3, .int ((bs.countP (· = true) : Nat) : Int) tt⟩, ⟨PyData.keyHash w.params (Str.ofString "norm"), .str (Str.ofString "norm") k4, .ref nm⟩, ⟨PyData.keyHash w.params (Str.ofString "is_simple"), .str (Str.ofString "is_simple") k5, .bool sb⟩] kk) :: news) → IntsAre cv (wsRun bs ([], 0)).1 → Q (.ref o) {s with heap := h', toks := tk'})
 : wpAny (model PySem.Challenge.rw_sc0103_01.row.prog w) (ktrTop dp un gd cn cs L a ccd cl outer) (call (.ref 147) [.str (tx bs ++ Str.ofString "x \t") t]) Q E s := by
  obtain ⟨sH, sG, sD, sO, sT⟩ := s
  dsimp only at F N ret ⊢
  k_dflt (refine' call_cls ?k1 ?k2 ?k3 ?k4 ?k5 ?k6 ?_; (case k1 => k_asm); (case k2 => k_asm); (case k3 => k_asm); (case k4 => k_is); (case k5 => k_is); (case k6 => k_is); k_whole; intro x' d' h' F' N' l1 l2; (try k_lt2 l2); (try k_sweep))
  k_dflt (refine' code_def ?k1 ?k2 ?k3 ?k4 ?k5 ?kA ?kF ?kK ?k6 ?k7 ?k8 ?k9 ?kB ?_ ?c2 ?c3 ?c4 ?c5; (case kA => exact rfl); (case kF => exact rfl); (case kK => assumption); (case k1 => k_asm); (case k2 => k_asm); (case k3 => k_asm); (case k4 => k_asm); (case k5 => k_asm); (case k6 => k_is); (case k7 => k_is); (case k8 => ktr_room); (case k9 => first | exact BindsTo.of_eq rfl | exact binds_K (by k_in) rfl (by k_is) rfl rfl rfl | (refine' binds_KW ?x1 ?x2 ?x3 ?x4 ?x5 ?x6 ?x7 ?x8; (case x1 => k_in); (case x2 => exact rfl); (case x3 => k_is); (case x4 => exact rfl); (case x5 => exact rfl); (case x6 => exact rfl); (case x7 => k_is); (case x8 => exact rfl))); (case c5 => decide); (case kB => exact locs rfl); (case c2 => exact rfl); (case c3 => exact rfl); (case c4 => exact rfl); k_whole; intro g' L' h' FG' F' N' B' X' T'; (try dsimp only); (try k_fold))
  (show let A' := _; let Q' := _; let E' := _; wpAny _ A' _ Q' E' _); intro A' Q' E'
  k_steps
  rename (_ < _ ∧ _ < _ ∧ _ < _ ∧ AllLt _ _) => l9
  rename News _ _ _ _ => N9
  obtain ⟨base, hbase, N9⟩ := split_led N9
  have hall := allLt_base hbase l9
  refine for_str (by rfl) (by rfl) rfl (by passes_own) (JS wsPs (fun c : WSt => (c.D, listO c.cv c.kk) :: base) (wsI bs base) [Str.ofString "ch"] _) (by k_asm) N9 (js0 (Led := fun c : WSt => (c.D, listO c.cv c.kk) :: base) (⟨_, [], 0, 0, 0, 0, _, _, _⟩ : WSt) ⟨Nat.zero_le _, .nil, rfl, rfl, rfl, allLt_mem hall⟩ (by unfold wsPs; kst_all)) (raw_ascii bs) (step_S ?hx ?turn) ?fin
  case hx =>
    intro c p hp
    simp only [wsPs, List.mem_cons, List.not_mem_nil, or_false] at hp
    rcases hp with rfl | rfl | rfl | rfl
    · exact (by decide : Str.ofString "count" ≠ Str.ofString "ch")
    · exact (by decide : Str.ofString "b" ≠ Str.ofString "ch")
    · exact (by decide : Str.ofString "n" ≠ Str.ofString "ch")
    · exact (by decide : Str.ofString "nt" ≠ Str.ofString "ch")
  case turn =>
    rintro i v ⟨D, cv, kk, b, n, nt, tb, tn, tt⟩ u It oI hp tk hi ⟨cc, tv, hcc, rfl⟩ ⟨hib, hcv, rfl, rfl, rfl, hD⟩ off F9 N9
    dsimp only at F9 N9 ⊢
    (show let A2 := _; let Q2 := _; let E2 := _; wpAny _ A2 _ Q2 E2 _); intro A2 Q2 E2
    dsimp only [wsPs, mapS, kstB] at hcv hD off F9 N9
    have hne : @Ne Nat D It := off _ List.mem_cons_self
    have hne' : @Ne Nat It D := Ne.symm hne
    have off2 : ∀ p ∈ base, p.1 ≠ It := fun p hp => off p (List.mem_cons_of_mem _ hp)
    rw [raw_size] at hi
    have hcl := IntsAre.length hcv
    have hcb := ws_len (bs.take i)
    rw [List.length_take] at hcb
    have hc1 : cv.length ≤ 100 := hcl ▸ Nat.le_trans hcb.1 (Nat.le_trans (Nat.min_le_right _ _) hb)
    have hb1 : (wsRun (bs.take i) ([], 0)).2 ≤ 100 := Nat.le_trans hcb.2 (Nat.le_trans (Nat.min_le_right _ _) hb)
    clear hcb
    by_cases hlt : i < bs.length
    · rw [raw_at hlt] at hcc
      obtain rfl := Option.some.inj hcc
      have hrun : wsRun (bs.take (i + 1)) ([], 0) = wsRun [bs[i]] (wsRun (bs.take i) ([], 0)) := by
        rw [List.take_add_one, List.getElem?_eq_getElem hlt]
        exact wsRun_snoc _ _ _
      have hcnt : (bs.take (i + 1)).countP (· = true) = (bs.take i).countP (· = true) + (if bs[i] = true then 1 else 0) := by
        rw [List.take_add_one, List.getElem?_eq_getElem hlt, List.countP_append]
        simp [List.countP_cons]
      cases hbi : bs[i] with
      | false =>
        rw [hbi] at hrun F9 hcnt
        change Fr _ _ _ (fun y => if y = Str.ofString "ch" then some (Value.str (Str.ofString " ") tv) else _) at F9
        k_steps
        all_goals exact ⟨⟨D, cv, kk, ((wsRun (bs.take i) ([], 0)).2 : Int) + 1, (i : Int) + 1, ((bs.take i).countP (· = true) : Nat), _, _, _⟩, _, _, _, rfl, by k_asm, by k_asm, off, ⟨hlt, by rw [hrun, wsRun_f]; exact hcv, by rw [hrun, wsRun_f]; rfl, rfl, by rw [hcnt]; simp, hD⟩, by unfold wsPs; kst_all, by (intro z h2 h3; (simp only [wsPs] at h2); (have h3' := h3); (simp only [List.forall_mem_cons, List.not_mem_nil, false_implies, implies_true, and_true, ne_eq] at h2); (simp only [List.contains_cons, List.contains_nil, Bool.or_false, Bool.or_eq_false_iff, beq_eq_false_iff_ne, ne_eq] at h3); simp only [mapS, wsPs, kstB, h2, h3, h3', if_false, Bool.false_eq_true])⟩
      | true =>
        rw [hbi] at hrun F9 hcnt
        change Fr _ _ _ (fun y => if y = Str.ofString "ch" then some (Value.str (Str.ofString "\t") tv) else _) at F9
        k_steps
        all_goals (
          refine endS (c := ⟨_, _, _, 0, (i : Int) + 1, (((bs.take i).countP (· = true) : Nat) : Int) + 1, _, _, _⟩) (by k_asm) (by unfold wsPs; kst_all) (by (intro z h2 h3; (simp only [wsPs] at h2); (have h3' := h3); (simp only [List.forall_mem_cons, List.not_mem_nil, false_implies, implies_true, and_true, ne_eq] at h2); (simp only [List.contains_cons, List.contains_nil, Bool.or_false, Bool.or_eq_false_iff, beq_eq_false_iff_ne, ne_eq] at h3); simp only [mapS, wsPs, kstB, h2, h3, h3', if_false, Bool.false_eq_true])) (by (refine cb_drop (by k_asm) ?_; kcf_all)) (by (refine List.forall_mem_cons.mpr ⟨?_, off2⟩; first | exact hne | (refine neN ?_; (try dsimp only); omega))) ?_
          refine ⟨hlt, ?_, ?_, rfl, ?_, ?_⟩
          · rw [hrun, wsRun_t]
            first
              | (rw [addAt_hi hcl (by omega)]; assumption)
              | (rw [addAt_lo (by omega)]; assumption)
          · rw [hrun, wsRun_t]; rfl
          · rw [hcnt]; simp
          · first
              | exact hD
              | (rename (_ < _ ∧ _ < _ ∧ _ < _ ∧ _ < _ ∧ AllLt _ _) => l9; exact allLt_mem l9.2.2.2.2))
    · obtain rfl : i = bs.length := by omega
      rw [raw_x] at hcc
      obtain rfl := Option.some.inj hcc
      subst hbase
      simp only [List.take_length] at hcv F9 hcl hb1
      have e1 : @Ne Nat x' It := off2 _ (List.mem_cons_of_mem _ List.mem_cons_self)
      have e2 : @Ne Nat d' It := off2 _ (List.mem_cons_of_mem _ (List.mem_cons_of_mem _ List.mem_cons_self))
      have e3 : @Ne Nat x' D := hD _ (List.mem_cons_of_mem _ List.mem_cons_self)
      have e4 : @Ne Nat d' D := hD _ (List.mem_cons_of_mem _ (List.mem_cons_of_mem _ List.mem_cons_self))
      have e5 : ∀ p ∈ news, p.1 ≠ d' := fun p hp => Nat.ne_of_lt (l1 p hp)
      k_steps
      all_goals (refine turn_brk ?_)
      all_goals k_steps
      all_goals (refine' ret _ _ _ _ _ _ _ _ _ _ _ _ _ _ _ _ _ (by k_asm) (cb_drop (by k_asm) ?kf) hcv; (case kf => kcf_all))
  case fin =>
    refine fin_S ?_
    rintro c u hp tk ⟨hib, _⟩ F9 N9
    rw [raw_size] at hib
    omega

end
end Mine

end PartPWs
section PartPCel
open PySem PySem.W PyProof.Rows
set_option maxRecDepth 100000
set_option maxHeartbeats 8000000
set_option linter.unusedSectionVars false
namespace Mine
theorem code_cells {prog : Program} {w : World} {A A₀ : Around} {s : Shared} {K : Frag} {L : Addr} {h₀ base : Heap}
  {m mg mb : Str → Option Value} {news : List (Addr × Obj)} {p : Program} {loose : List Str}
  {mean : ExcName → Option Value} {env : Env} {outer : List Env} {R : Result → Shared → Prop} {name qual : Str}
  {params : Arguments} {body : List Stmt} {scope : Scope} {dV kV doc pm cdv ct oc : Value} {an od : Option Addr}
  {osl : Array (Option Value)} {f : Addr} {args : Args} {binds : List (Str × Value)}
  (B : Below A₀ base outer h₀) (F : Fr h₀ L s.heap m) (X : K.In h₀) (N : News h₀ L s.heap news) (T : Top p loose mean mg mb h₀)
  (hf : A.frames = some (env :: outer)) (he : env.frame = some L) (hk : env.scope.kind = ScopeKind.function)
  (hl : List.lookup f K = some { cls := oc, dict := od, data := Data.func (fnOf name qual params body scope dV kV doc pm an cdv ct), slots := osl })
  (hc : codeIn K cdv qual = true) (hd : A.depth < recursionLimit)
  (hb : BindsTo s (fnOf name qual params body scope dV kV doc pm an cdv ct) args binds)
  (hn : (binds.all fun y => List.lookup y.fst scope.names == some NameKind.local || List.lookup y.fst scope.names == some NameKind.cell) = true)
  (nd : (List.map (fun x => x.fst) (cellsFrom 0 scope.names [])).Nodup)
  (h : ∀ (g : Heap) (L' : Addr) (h₁ : Heap) (tk : Nat) (cells : List (Addr × Obj)), Fr h₀ L g m → Fr g L' h₁ (bindL (envOfC qual scope L' f cdv).kindOf binds fun _ => none) → News g L' h₁ (cells ++ news) →
    CellsAre (bindC (envOfC qual scope L' f cdv).kindOf binds fun _ => none) (cellsFrom (L' + 1) scope.names []) cells → Below A base (env :: outer) g → K.In g → Top p loose mean mg mb g → (∀ p ∈ news, p.1 < L') →
    wpAny (model prog w) (A.deeper (envOfC qual scope L' f cdv)) (execs body (envOfC qual scope L' f cdv)) (fun fl s' => LeaveK h₀ L m g R (match fl with | Flow.ret v => v | _ => Value.none) s')
      (fun e s' => wpAny (model prog w) (A.deeper (envOfC qual scope L' f cdv)) (leaving (envOfC qual scope L' f cdv) e) (fun _ s'' => R (Except.error e) s'') (fun e' s'' => R (Except.error e') s'') s')
      { heap := h₁, gens := s.gens, drawn := s.drawn, toks := tk, os := s.os })
  (c2 : scope.isCoroutine = false) (c3 : scope.isGenerator = false) (c4 : scope.kind = ScopeKind.function) :
  codeAny (model prog w) A (Code.call (Value.ref f) args) R s := by
  refine callX_cells B F N T.nolimit hf he hk (F.keep _ _ (X _ _ hl)) rfl ?_ hd hb (kindsX hn) nd ?_ c2 c3 c4
  · exact codeRec_of (X.keeps F.keep) hc
  · intro g L' h₁ tk cells FG F' N' C' B' st lt
    exact h g L' h₁ tk cells FG F' N' C' B' (X.keeps st) (T.keeps st) lt
end Mine
namespace Mine
section
variable {prog : Program} {w : World} {A : Around} {E : Value → Shared → Prop} {s : Shared} {h₀ : Heap} {m : Str → Option Value} {env : Env} {Q : Flow → Shared → Prop}
noncomputable def SameEnd (h₀ : Heap) (L : Addr) (m : Str → Option Value) (s₁ : Shared) (led : List (Addr × Obj)) (f : Flow) (s₂ : Shared) : Prop :=
  f = .next ∧ ∃ h' tk, s₂ = { s₁ with heap := h', toks := tk } ∧ Fr h₀ L h' m ∧ News h₀ L h' led
theorem for_cell {x : Str} {px : Pos} {body : List Stmt} {r c : Addr} {a b : Int} {t u v : Tok} {n : Nat} {o0 : Obj} {v0 : Option Value} {rest : List (Addr × Obj)}
    (hk : env.scope.kind = .function) (hx : env.kindOf x = some .cell) (hc : List.lookup x env.cells = some c) (hh : A.handled = none) (hE : PassesOwn (model prog w) A env E)
    (F : Fr h₀ env.locals s.heap m) (N : News h₀ env.locals s.heap ((c, o0) :: rest)) (hd : o0.data = .cell v0) (off : ∀ p ∈ rest, p.1 ≠ c)
    (hr : IsRange s.heap r a b 1 t u v) (hsm : Builtin.Range.small a b 1 = true) (hn : Builtin.Range.rangeSize a b 1 = ((n : Nat) : Int))
    (step : ∀ (i : Nat) (tv : Tok) (o : Obj) (I : Addr) (oI : Obj) (h : Heap) (tk : Nat), i < n → o.data = .cell (some (.int (a + (i : Int)) tv)) → Fr h₀ env.locals h m → News h₀ env.locals h ((I, oI) :: (c, o) :: rest) →
      wpAny (model prog w) A (execs body env) (SameEnd h₀ env.locals m { s with heap := h, toks := tk } ((I, oI) :: (c, o) :: rest)) E { s with heap := h, toks := tk })
    (fin : ∀ (h : Heap) (tk : Nat) (o : Obj) (v : Option Value), o.data = .cell v → Fr h₀ env.locals h m → News h₀ env.locals h ((c, o) :: rest) → Q .next { s with heap := h, toks := tk }) :
    ForGo prog w A env x px body Q E (.ref r) s := by
  refine wpAny_pyIter_range hr hsm ?_
  rw [hn]
  generalize hI : s.heap.objs.size = I
  have up : ∀ b o, s.heap.get? b = some o → (s.heap.push { cls := .type "range_iterator", data := .fields #[rawInt a, rawInt (n : Int), rawInt 1] }).get? b = some o := fun b o e => Heap.get?_push_of_some _ e
  have W := Walks.range (prog := prog) (w := w) hh I a 1 n
  have cI : c ≠ I := hI ▸ Nat.ne_of_lt (Heap.lt_size (N _ List.mem_cons_self).1)
  have rI : ∀ p ∈ rest, p.1 ≠ I := fun p hp => hI ▸ Nat.ne_of_lt (Heap.lt_size (N _ (List.mem_cons_of_mem _ hp)).1)
  have LI : env.locals ≠ I := hI ▸ Nat.ne_of_lt F.ns.lt
  have hI₀ : h₀.get? I = none := by
    cases e : h₀.get? I with
    | none => rfl
    | some o => exact absurd (Heap.lt_size (F.keep _ _ e)) (by rw [hI]; exact Nat.lt_irrefl _)
  have hc₀ := (N _ List.mem_cons_self).2
  refine codeAny_forLoop_any (fun k s' => ∃ h' tk i o v, s' = { s with heap := h', toks := tk } ∧ i ≤ n ∧ k = n + 1 - i ∧ IsRangeIter h' I (a + (i : Int) * 1) ((n : Int) - (i : Int)) 1 ∧ Fr h₀ env.locals h' m ∧ News h₀ env.locals h' ((c, o) :: rest) ∧ o.data = .cell v) ?_ (n + 1)
    ⟨_, s.toks, 0, o0, v0, rfl, Nat.zero_le _, rfl, ?_, F.keeps up, N.grown up, hd⟩
  · rintro k s' ⟨h', tk, i, o, v, rfl, hi, rfl, hst, F', N', hd'⟩
    have fr : ∀ h₁ : Heap, (∀ b o, b ∉ [I] → h'.get? b = some o → h₁.get? b = some o) → Fr h₀ env.locals h₁ m := fun h₁ hk =>
      ⟨F'.ns.at' fun o e => hk _ o (by simpa using LI) e, fun b o e => hk b o (fun q => by rw [List.mem_singleton.mp q, hI₀] at e; cases e) (F'.keep b o e), F'.above⟩
    have nI : ∀ p ∈ (c, o) :: rest, p.1 ≠ I := fun p hp => by
      rcases List.mem_cons.mp hp with rfl | hp
      · exact cI
      · exact rI p hp
    have nw : ∀ h₁ : Heap, (∀ b o, b ∉ [I] → h'.get? b = some o → h₁.get? b = some o) → News h₀ env.locals h₁ ((c, o) :: rest) := fun h₁ hk p hp => ⟨hk _ _ (by simpa using nI p hp) (N' p hp).1, (N' p hp).2⟩
    by_cases hlt : i < n
    · refine W.item i _ _ _ hlt hst fun v₁ h₁ tk₁ hP hst₁ hk₁ => ?_
      obtain ⟨tv, rfl⟩ := hP
      have F₁ := fr h₁ hk₁
      have N₁ := nw h₁ hk₁
      refine wpAny_pure ?_
      refine wpAny_assign_Name (wpAny_storeName_cell hk hx hc ⟨o, (N₁ _ List.mem_cons_self).1, hd'⟩ fun h₂ hc₂ hs₂ => ?_)
      obtain ⟨o₂, e₂, d₂⟩ := hc₂
      have F₂ := F₁.change hs₂ hc₀.1 hc₀.2
      have st₂ : h₂.get? I = some _ := hs₂.extBut _ _ (Ne.symm cI) hst₁
      have N₂ : News h₀ env.locals h₂ ((I, _) :: (c, o₂) :: rest) := fun p hp => by
        rcases List.mem_cons.mp hp with rfl | hp
        · exact ⟨st₂, Ne.symm LI, hI₀⟩
        · rcases List.mem_cons.mp hp with rfl | hp
          · exact ⟨e₂, hc₀⟩
          · exact ⟨hs₂.extBut _ _ (off p hp) (N₁ p (List.mem_cons_of_mem _ hp)).1, (N₁ p (List.mem_cons_of_mem _ hp)).2⟩
      refine wpAny_passesOwn hE (wpAny_mono (step i tv o₂ I _ h₂ _ hlt (by rw [d₂, Int.mul_one]) F₂ N₂) (fun f s₃ h₃ => ?_) fun _ _ e => e)
      obtain ⟨rfl, h₃', tk₃, rfl, F₃, N₃⟩ := h₃
      exact ⟨n + 1 - (i + 1), by omega, h₃', tk₃, i + 1, o₂, _, rfl, hlt, rfl, (N₃ _ List.mem_cons_self).1, F₃, fun p hp => N₃ p (List.mem_cons_of_mem _ hp), d₂⟩
    · obtain rfl : i = n := by omega
      refine W.done _ _ _ hst fun h₁ tk₁ hk₁ => wpAny_execs_nil ?_
      exact fin h₁ tk₁ o v hd' (fr h₁ hk₁) (nw h₁ hk₁)
  · show IsRangeIter _ _ _ _ _
    rw [← hI]
    simpa using Heap.get?_push_size _ rfl
end
end Mine
namespace Mine
inductive Del (c : Addr) (o : Obj) : List (Addr × Obj) → List (Addr × Obj) → Prop
  | head {r} : Del c o ((c, o) :: r) r
  | tail {p r r'} : Del c o r r' → Del c o (p :: r) (p :: r')
theorem Del.mem {c : Addr} {o : Obj} {l r : List (Addr × Obj)} (d : Del c o l r) : ∀ p, p ∈ l ↔ p ∈ (c, o) :: r := by
  induction d with
  | head => intro p; exact Iff.rfl
  | tail _ ih =>
    intro p
    rw [List.mem_cons, ih, List.mem_cons, List.mem_cons, List.mem_cons]
    constructor
    · rintro (h | h | h)
      · exact .inr (.inl h)
      · exact .inl h
      · exact .inr (.inr h)
    · rintro (h | h | h)
      · exact .inr (.inl h)
      · exact .inl h
      · exact .inr (.inr h)
theorem Del.news {h₀ h : Heap} {L c : Addr} {o : Obj} {l r : List (Addr × Obj)} (d : Del c o l r) (N : News h₀ L h l) : News h₀ L h ((c, o) :: r) := fun p hp => N p ((d.mem p).mpr hp)
theorem ne_cell {h₀ h : Heap} {L a c : Addr} {oa o : Obj} {v : Option Value} {news : List (Addr × Obj)} (N : News h₀ L h news) (ha : (a, oa) ∈ news) (hc : (c, o) ∈ news) (hd : o.data = .cell v) (hn : ∀ v, oa.data ≠ .cell v) : a ≠ c := by
  intro e
  subst e
  have h1 := (N _ ha).1
  have h2 := (N _ hc).1
  rw [h1] at h2
  cases h2
  exact hn _ hd
end Mine
namespace Mine
theorem Del.of {c : Addr} {o : Obj} : ∀ {l : List (Addr × Obj)} (k : Nat), l[k]? = some (c, o) → Del c o l (l.eraseIdx k)
  | [], k, h => by simp at h
  | p :: l, 0, h => by simp at h; subst h; exact .head
  | p :: l, k + 1, h => .tail (Del.of k (by simpa using h))
end Mine

end PartPCel
section PartPCompR
open PySem PySem.W PyProof.Rows PySem.Calls PySem.Spec
set_option maxRecDepth 100000
set_option maxHeartbeats 8000000
set_option linter.unusedSectionVars false
namespace Mine
open PyProof.Rows.LCg (NsObj lst lst_snoc ns_obj)
section
variable {prog : Program} {w : World} {A : Around} {E : Value → Shared → Prop} {s : Shared} {h₀ : Heap} {L : Addr} {m : Str → Option Value} {env : Env} {news : List (Addr × Obj)}
theorem lotgR {M : Model} {target : Expr} {I : Addr} {o : Obj} {v : Value} {Q : Unit → Shared → Prop} (ho : s.heap.get? I = some o) (hc : o.cls = .type "range_iterator") (h : Q () s) : wpAny M A (letOwnedTupleGo target (.ref I) v) Q E s := by
  have go : wpAny M A (match (Value.ref I), v with
    | .ref r, .ref a => (load r >>= fun o => match o.cls, o.data with
      | .type n, .fields vs => if (["enumerate", "zip", "dict_itemiterator", "dict_reverseitemiterator", "odict_iterator", "itertools.zip_longest", "itertools.pairwise"].contains n && vs[0]? == some (rawInt a)) = true then (rule "for.unpacks-the-owned-tuple" >>= fun _ => updateField r 0 .none) else pure ()
      | _, _ => pure ())
    | _, _ => pure ()) Q E s := by
    cases v <;> first
      | exact wpAny_pure h
      | skip
    refine wpAny_bind (wpAny_load ho ?_)
    rw [hc]
    cases o.data <;> exact wpAny_pure h
  cases target <;> first
    | exact wpAny_pure h
    | (cases v <;> first | exact wpAny_pure h | exact go)
noncomputable def TurnP (prog : Program) (w : World) (A : Around) (h₀ : Heap) (L : Addr) (m : Str → Option Value) (env : Env) (elt : Expr) (x : Str) (scope : Scope) (cl : List (Str × Addr)) (s₁ : Shared) (n : Nat) (P : Nat → Value → Prop) (news : List (Addr × Obj)) (R : Nat → Value → Prop) : Prop :=
  ∀ (j : Nat) (v : Value) (I : Addr) (oI : Obj) (C : Addr) (oC : Obj) (D : Addr) (ys : List Value) (m₂ : Str → Option Value) (h : Heap) (tk : Nat) (E' : Value → Shared → Prop), j < n → P j v → NsObj oC m₂ → m₂ x = some v → Fr h₀ L h m → News h₀ L h ((I, oI) :: (C, oC) :: (D, lst ys) :: news) →
    wpAny (model prog w) A (eval elt (compEnvC scope cl C env)) (TurnEnd h₀ L m { s₁ with heap := h, toks := tk } ((I, oI) :: (C, oC) :: (D, lst ys) :: news) (R j)) E' { s₁ with heap := h, toks := tk }
noncomputable def GotN (n : Nat) (ys : List Value) (R : Nat → Value → Prop) : Prop := ys.length = n ∧ ∀ j, j < n → ∃ y, ys[j]? = some y ∧ R j y
theorem comp_coreR {elt iter : Expr} {x : Str} {px : Pos} {scope : Scope} {cl : List (Str × Addr)} {pos : Pos} {r : Addr} {a b : Int} {t u v : Tok} {n : Nat} {R : Nat → Value → Prop} {RR : Value → Addr → Result → Shared → Prop}
    (hh : A.handled = none) (hcell : ∀ y ∈ scope.names, y.2 ≠ .cell) (hkind : scope.kind = .function) (hx : scope.names.lookup x = some .local) (F : Fr h₀ L s.heap m) (N : News h₀ L s.heap news) (hr : IsRange s.heap r a b 1 t u v) (hsm : Builtin.Range.small a b 1 = true) (hn : Builtin.Range.rangeSize a b 1 = ((n : Nat) : Int)) (hlen : n ≤ 1000)
    (turn : TurnP prog w A h₀ L m env elt x scope cl s n (fun i v => ∃ t, v = .int (a + (i : Int)) t) news R)
    (hRR : ∀ D C h tk m' ys, Fr h₀ L h m → News h₀ L h ((D, lst ys) :: news) → (∀ p ∈ news, p.1 < D) → h.Ns C m' → h₀.get? C = none → h₀.get? D = none → C ≠ L → D ≠ L → C ≠ D → (∀ p ∈ news, p.1 ≠ C) → GotN n ys R → RR (.ref D) C (.ok .next) { s with heap := h, toks := tk }) :
    wpAny (model prog w) A (pyIter (.ref r)) (fun it s₂ => wpAny (model prog w) A (newList []) (fun acc s₃ => wpAny (model prog w) A (newFunctionEnv scope env.globals cl [] env.qual none .none (some env)) (fun cenv s₄ =>
      codeAny (model prog w) A (.compStart (.ListComp elt [⟨.Name x px, iter, [], 0⟩] scope pos) 0 it acc { cenv with scope := relabel scope env }) (RR acc cenv.locals) s₄) E s₃) E s₂) E s := by
  refine wpAny_pyIter_range hr hsm ?_
  rw [hn]
  refine wpAny_newObj_type (wpAny_newFunctionEnv hcell (by intro y hy; simp at hy) (fun h₁ hns₁ hsb₁ => ?_) hkind)
  dsimp only at hns₁ hsb₁ ⊢
  generalize hI : s.heap.objs.size = I at *
  generalize hH1 : s.heap.push { cls := .type "range_iterator", data := .fields #[rawInt a, rawInt (n : Int), rawInt 1] } = H1 at hns₁ hsb₁ ⊢
  have z1 : H1.objs.size = I + 1 := by rw [← hH1, Heap.size_push, hI]
  generalize hH2 : H1.push { cls := .type "list", dict := none, data := .seq ([] : List Value).toArray } = H2 at hns₁ hsb₁ ⊢
  have z2 : H2.objs.size = I + 2 := by rw [← hH2, Heap.size_push, z1]
  have old1 : ∀ b o, s.heap.get? b = some o → H1.get? b = some o := fun b o e => hH1 ▸ Heap.get?_push_of_some _ e
  have old2 : ∀ b o, H1.get? b = some o → H2.get? b = some o := fun b o e => hH2 ▸ Heap.get?_push_of_some _ e
  simp only [z1, z2] at hns₁ hsb₁ ⊢
  have old3 : ∀ b o, b ≠ I + 2 → H2.get? b = some o → h₁.get? b = some o := fun b o hb e => hsb₁.extBut b o hb (Heap.get?_push_of_some _ e)
  have below : ∀ b o, s.heap.get? b = some o → b < I := fun b o e => hI ▸ Heap.lt_size e
  have old : ∀ b o, s.heap.get? b = some o → h₁.get? b = some o := fun b o e => old3 b o (by have := below b o e; exact Nat.ne_of_lt (Nat.lt_of_lt_of_le this (Nat.le_add_right _ _))) (old2 b o (old1 b o e))
  have gI : h₁.get? I = some { cls := .type "range_iterator", data := .fields #[rawInt a, rawInt (n : Int), rawInt 1] } := old3 _ _ (Nat.ne_of_lt (Nat.lt_add_of_pos_right (by decide))) (old2 _ _ (by rw [← hH1, ← hI]; exact Heap.get?_push_size _ rfl))
  have gD : h₁.get? (I + 1) = some (lst []) := old3 _ _ (Nat.ne_of_lt (Nat.lt_succ_self _)) (by rw [← hH2, ← z1]; show (H1.push (lst [])).get? _ = some (lst []); exact Heap.get?_push_size _ rfl)
  have none₀ : ∀ a, I ≤ a → h₀.get? a = none := fun a ha => by
    cases e : h₀.get? a with
    | none => rfl
    | some o => have q := below _ _ (F.keep a o e); exact absurd q (Nat.not_lt.mpr ha)
  have hLI : L < I := hI ▸ F.ns.lt
  have W := Walks.range (prog := prog) (w := w) hh I a 1 n
  have nlt : ∀ p ∈ news, p.1 < I := fun p hp => below _ _ (N p hp).1
  have nI : ∀ p ∈ news, p.1 ≠ I := fun p hp => Nat.ne_of_lt (nlt p hp)
  have nD : ∀ p ∈ news, p.1 ≠ I + 1 := fun p hp => Nat.ne_of_lt (Nat.lt_succ_of_lt (nlt p hp))
  have nC : ∀ p ∈ news, p.1 ≠ I + 2 := fun p hp => Nat.ne_of_lt (Nat.lt_succ_of_lt (Nat.lt_succ_of_lt (nlt p hp)))
  have ID : I ≠ I + 1 := Nat.ne_of_lt (Nat.lt_succ_self _)
  have IC : I ≠ I + 2 := Nat.ne_of_lt (Nat.lt_succ_of_lt (Nat.lt_succ_self _))
  have DC : I + 1 ≠ I + 2 := Nat.ne_of_lt (Nat.lt_succ_self _)
  have LnI : L ≠ I := Nat.ne_of_lt hLI
  have LnD : L ≠ I + 1 := Nat.ne_of_lt (Nat.lt_succ_of_lt hLI)
  have LnC : L ≠ I + 2 := Nat.ne_of_lt (Nat.lt_succ_of_lt (Nat.lt_succ_of_lt hLI))
  have loop : codeAny (model prog w) A (.compLoop (.ListComp elt [⟨.Name x px, iter, [], 0⟩] scope pos) 0 (.ref I) (.ref (I + 1)) (compEnvC scope cl (I + 2) env)) (RR (.ref (I + 1)) (I + 2)) { s with heap := h₁, toks := s.toks + ([] : List (Str × Value)).length } := by
    refine kcp_loop (fun k s' => ∃ h' tk i ys m', s' = { s with heap := h', toks := tk } ∧ i ≤ n ∧ k = n + 1 - i ∧ ys.length = i ∧ IsRangeIter h' I (a + (i : Int) * 1) ((n : Int) - (i : Int)) 1 ∧ Fr h₀ L h' m ∧ h'.Ns (I + 2) m' ∧ News h₀ L h' ((I + 1, lst ys) :: news) ∧
      ∀ j, j < i → ∃ y, ys[j]? = some y ∧ R j y) ?_ (n + 1) ⟨h₁, _, 0, [], _, rfl, Nat.zero_le _, rfl, rfl, ?_, F.keeps old, hns₁, ?_, fun j hj => absurd hj (Nat.not_lt_zero _)⟩
    · rintro k s' ⟨h', tk, i, ys, m', rfl, hi, rfl, hyl, gi, F', hC, N', got⟩
      have N'n : News h₀ L h' news := fun p hp => N' p (List.mem_cons_of_mem _ hp)
      by_cases hlt : i < n
      · refine W.item i _ _ _ hlt gi fun v h₂ tk₂ hv st₂ hk₂ => ?_
        have k2 : ∀ b o, b ≠ I → h'.get? b = some o → h₂.get? b = some o := fun b o hb e => hk₂ b o (by simpa using hb) e
        have F₂ : Fr h₀ L h₂ m := ⟨F'.ns.at' fun o e => k2 _ o LnI e, fun b o e => k2 b o (fun q => by rw [q, none₀ I (Nat.le_refl _)] at e; cases e) (F'.keep b o e), F'.above⟩
        have N₂ : News h₀ L h₂ ((I + 1, lst ys) :: news) := fun p hp => ⟨k2 _ _ (by rcases List.mem_cons.mp hp with rfl | hp; exact Ne.symm ID; exact nI p hp) (N' p hp).1, (N' p hp).2⟩
        have st₂' : h₂.get? I = some _ := st₂
        refine lotgR st₂' rfl ?_
        refine asg_name (vs := [v]) (news := news) (h₀ := h₀) (L := L) hx hkind v _ (I + 2) _ _ _ (by simp) (hC.at' fun o e => k2 _ o (Ne.symm IC) e) (fun p hp => N₂ p (List.mem_cons_of_mem _ hp)) nC fun h₃ tk₃ m₃ hC₃ ha₃ hk₃ => ?_
        obtain ⟨oC, eC, hoC⟩ := ns_obj hC₃
        have eI := st₂'
        have F₃ : Fr h₀ L h₃ m := ⟨F₂.ns.at' fun o e => hk₃ _ o LnC e, fun b o e => hk₃ b o (fun q => by rw [q, none₀ (I + 2) (Nat.le_add_right _ _)] at e; cases e) (F₂.keep b o e), F₂.above⟩
        have N₃ : News h₀ L h₃ ((I, _) :: (I + 2, oC) :: (I + 1, lst ys) :: news) := fun p hp => by
          rcases List.mem_cons.mp hp with rfl | hp
          · exact ⟨hk₃ _ _ IC eI, Ne.symm LnI, none₀ _ (Nat.le_refl _)⟩
          · rcases List.mem_cons.mp hp with rfl | hp
            · exact ⟨eC, Ne.symm LnC, none₀ _ (Nat.le_add_right _ _)⟩
            · refine ⟨hk₃ _ _ ?_ (N₂ p hp).1, (N₂ p hp).2⟩
              rcases List.mem_cons.mp hp with rfl | hp
              · exact DC
              · exact nC p hp
        obtain ⟨tv, hv⟩ := hv
        refine wpAny_mono (turn i v I _ (I + 2) oC (I + 1) ys m₃ h₃ tk₃ _ hlt ⟨tv, by rw [hv, Int.mul_one]⟩ hoC ha₃ F₃ N₃) (fun y s₄ q => ?_) fun _ _ e => e
        obtain ⟨h₄, tk₄, rfl, F₄, N₄, hR⟩ := q
        have zI := (N₄ (I, _) List.mem_cons_self).1
        have zC := (N₄ (I + 2, oC) (List.mem_cons_of_mem _ List.mem_cons_self)).1
        have zD := (N₄ (I + 1, lst ys) (List.mem_cons_of_mem _ (List.mem_cons_of_mem _ List.mem_cons_self))).1
        refine append_at (hsz := by show ys.toArray.size ≤ sizeLine; rw [List.size_toArray, hyl, PySem.sizeLine_eq]; omega) zD fun h₅ hs₅ hD₅ => ?_
        refine ⟨n + 1 - (i + 1), by omega, h₅, tk₄, i + 1, ys ++ [y], _, rfl, hlt, rfl, by rw [List.length_append, List.length_singleton, hyl], (show IsRangeIter _ _ _ _ _ from hs₅.extBut _ _ ID zI), F₄.change hs₅ (Ne.symm LnD) (none₀ _ (Nat.le_succ _)),
          (hoC.ns zC).sameBut hs₅ (Ne.symm DC), fun p hp => ?_, fun j hj => ?_⟩
        · rcases List.mem_cons.mp hp with rfl | hp
          · exact ⟨hD₅.trans (congrArg some (lst_snoc ys y)), Ne.symm LnD, none₀ _ (Nat.le_succ _)⟩
          · have z := N₄ p (List.mem_cons_of_mem _ (List.mem_cons_of_mem _ (List.mem_cons_of_mem _ hp)))
            exact ⟨hs₅.extBut _ _ (nD p hp) z.1, z.2⟩
        · by_cases hji : j < i
          · obtain ⟨y', e', r'⟩ := got j hji
            exact ⟨y', by rw [List.getElem?_append_left (by omega)]; exact e', r'⟩
          · obtain rfl : j = i := by omega
            exact ⟨y, by rw [List.getElem?_append_right (by omega), hyl, Nat.sub_self]; rfl, hR⟩
      · obtain rfl : i = n := by omega
        refine W.done _ _ _ gi fun h₂ tk₂ hk₂ => ?_
        have k2 : ∀ b o, b ≠ I → h'.get? b = some o → h₂.get? b = some o := fun b o hb e => hk₂ b o (by simpa using hb) e
        refine hRR (I + 1) (I + 2) h₂ tk₂ m' ys ⟨F'.ns.at' fun o e => k2 _ o LnI e, fun b o e => k2 b o (fun q => by rw [q, none₀ I (Nat.le_refl _)] at e; cases e) (F'.keep b o e), F'.above⟩
          (fun p hp => ⟨k2 _ _ (by rcases List.mem_cons.mp hp with rfl | hp; exact Ne.symm ID; exact nI p hp) (N' p hp).1, (N' p hp).2⟩) (fun p hp => Nat.lt_succ_of_lt (nlt p hp)) (hC.at' fun o e => k2 _ o (Ne.symm IC) e)
          (none₀ _ (Nat.le_add_right _ _)) (none₀ _ (Nat.le_succ _)) (Ne.symm LnC) (Ne.symm LnD) (Ne.symm DC) nC ⟨hyl, got⟩
    · show IsRangeIter _ _ _ _ _
      simpa using gI
    · intro p hp
      rcases List.mem_cons.mp hp with rfl | hp
      · exact ⟨gD, Ne.symm LnD, none₀ _ (Nat.le_succ _)⟩
      · exact ⟨old _ _ (N p hp).1, (N p hp).2⟩
  exact codeAny_compStart_list loop (W.self 0 _ _ _ (by show IsRangeIter _ _ _ _ _; simpa using gI) loop)

noncomputable def CSrcR (prog : Program) (w : World) (A : Around) (h₀ : Heap) (L : Addr) (m : Str → Option Value) (env : Env) (x : Str) (elt : Expr) (scope : Scope) (cl : List (Str × Addr)) (Fin : Shared → List (Addr × Obj) → List Value → Prop) (xv : Value) (s₁ : Shared) : Prop :=
  ∃ r a b t u v n news R, xv = .ref r ∧ Fr h₀ L s₁.heap m ∧ News h₀ L s₁.heap news ∧ IsRange s₁.heap r a b 1 t u v ∧ Builtin.Range.small a b 1 = true ∧ Builtin.Range.rangeSize a b 1 = ((n : Nat) : Int) ∧ n ≤ 1000 ∧
    TurnP prog w A h₀ L m env elt x scope cl s₁ n (fun i v => ∃ t, v = .int (a + (i : Int)) t) news R ∧ ∀ ys, GotN n ys R → Fin s₁ news ys
noncomputable def FinAs0 (h₀ : Heap) (L : Addr) (m : Str → Option Value) (y : Str) (Q : Flow → Shared → Prop) (s₁ : Shared) (news : List (Addr × Obj)) (ys : List Value) : Prop :=
  ∀ D h tk, Fr h₀ L h (fun z => if z = y then some (.ref D) else m z) → News h₀ L h ((D, lst ys) :: news) → (∀ p ∈ news, p.1 < D) → Q .next { s₁ with heap := h, toks := tk }
theorem comp_AR {elt iter : Expr} {x : Str} {px : Pos} {y : Str} {py : Pos} {scope : Scope} {cl : List (Str × Addr)} {pos spos : Pos} {Q : Flow → Shared → Prop} (_F₀ : Fr h₀ L s.heap m) (hh : A.handled = none) (hLe : env.locals = L)
    (hsw : swapsWith (.ListComp elt [⟨.Name x px, iter, [], 0⟩] scope pos) (some (.Name y py)) spos.line env = pure true)
    (hclos : closureFor scope env = pure cl) (hcell : ∀ z ∈ scope.names, z.2 ≠ .cell) (hkind : scope.kind = .function) (hx : scope.names.lookup x = some .local)
    (hnames : ∀ z ∈ scope.names, z.2 = .local → scope.names.lookup z.1 = some .local) (hs : ∀ x, foldedSetIterable iter env x = pure x)
    (hy : env.kindOf y = some .local) (hp : (env.scope.kind == .class || (env.scope.kind == .module && env.locals != env.globals)) = false)
    (h : wpAny (model prog w) A (eval iter env) (CSrcR prog w A h₀ L m env x elt scope cl (FinAs0 h₀ L m y Q)) E s) :
    wpAny (model prog w) A (exec (.Assign [.Name y py] (.ListComp elt [⟨.Name x px, iter, [], 0⟩] scope pos) spos) env) Q E s := by
  subst hLe
  rw [exec_Assign_Name_used _ _ _ _ hsw]
  refine wpAny_bind (wpAny_standAt (wpAny_bind ?_))
  show wpAny _ A (do let _ ← comprehension (.ListComp elt [⟨.Name x px, iter, [], 0⟩] scope pos) scope env _ (newList []) false (eval iter env) (some (assign (.Name y py) env))) _ _ s
  refine wpAny_bind (wpAny_mono (wpAny_comprehension_free (use := some (assign (.Name y py) env)) (Q := fun _ s' => Q .next s') rfl hs hclos hkind hnames
    (wpAny_mono h (fun xv s₁ h₁ => ?_) fun _ _ e => e)) (fun _ s' hq => wpAny_pure (wpAny_pure hq)) fun _ _ e => e)
  obtain ⟨r, a, b, t, u, v, n, news, R, rfl, F, N, hr, hsm, hn, hlen, turn, fin⟩ := h₁
  refine comp_coreR hh hcell hkind hx F N hr hsm hn hlen turn ?_
  intro D C h tk m' ys F' N' lt hC hC₀ hD₀ hCL hDL hCD nC got
  show wpAny _ A (assign (.Name y py) env (.ref D)) _ _ _
  refine wpAny_assign_Name (wpAny_storeName_local hy F'.ns (fun h₂ hn₂ hs₂ => ?_) hp)
  have hL₀ : h₀.get? env.locals = none := Heap.get?_none_of_le F'.above
  have F₂ : Fr h₀ env.locals h₂ (fun z => if z = y then some (.ref D) else m z) := ⟨hn₂, fun b o e => hs₂.extBut b o (fun q => by rw [q, hL₀] at e; cases e) (F'.keep b o e), F'.above⟩
  refine ⟨m', hC.sameBut hs₂ hCL, fun h'' hs'' => fin ys got D h'' _ (F₂.change hs'' hCL hC₀) (fun p hp => ?_) lt⟩
  have z : h₂.get? p.1 = some p.2 := hs₂.extBut _ _ (N' p hp).2.1 (N' p hp).1
  refine ⟨hs''.extBut _ _ ?_ z, (N' p hp).2⟩
  rcases List.mem_cons.mp hp with rfl | hp
  · exact Ne.symm hCD
  · exact nC p hp
end
end Mine

end PartPCompR
section PartPNe
open PySem PySem.W PyProof.Rows PySem.Calls PySem.Spec
set_option maxRecDepth 100000
set_option maxHeartbeats 8000000
set_option linter.unusedSectionVars false
namespace Mine
theorem can_ints : ∀ ns : List Int, PyData.canLayAll0 (ns.map PyData.int) = true
  | [] => rfl
  | n :: ns => by
    rw [List.map_cons, PyData.canLayAll0, can_ints ns]
    rfl
theorem can_norm (ns : List Int) (b : Int) : (PyData.tuple [.tuple (ns.map PyData.int), .int b]).canLay0 = true := by
  simp [PyData.canLay0, PyData.canLayAll0, can_ints]
theorem depth_norm (ns : List Int) (b : Int) : (PyData.tuple [.tuple (ns.map PyData.int), .int b]).depth ≤ 8 := by
  have h : ∀ ns : List Int, PyData.depthAll (ns.map PyData.int) ≤ 1 := by
    intro ns
    induction ns with
    | nil => simp [PyData.depthAll]
    | cons n ns ih => rw [List.map_cons, PyData.depthAll]; simp [PyData.depth]; omega
  have := h ns
  simp [PyData.depth, PyData.depthAll]
  omega
section
variable {prog : Program} {w : World} {A : Around} {E : Value → Shared → Prop} {s : Shared} {h₀ : Heap} {L : Addr} {news : List (Addr × Obj)}
theorem ne_norm {a b c d : Addr} {vs us : List Value} {ns : List Int} {n : Int} {t u : Tok} {k1 k2 k3 k4 : Nat} {Q : Value → Shared → Prop} (N : News h₀ L s.heap news)
    (h1 : (a, ({ cls := .type "tuple", data := .seq [Value.ref c, .int n t].toArray k1 } : Obj)) ∈ news) (h2 : (c, ({ cls := .type "tuple", data := .seq vs.toArray k2 } : Obj)) ∈ news)
    (h3 : (b, ({ cls := .type "tuple", data := .seq [Value.ref d, .int n u].toArray k3 } : Obj)) ∈ news) (h4 : (d, ({ cls := .type "tuple", data := .seq us.toArray k4 } : Obj)) ∈ news)
    (i1 : IntsAre vs ns) (i2 : IntsAre us ns) (hu : A.units + 8 < cLine) (h : Q (.bool false) s) : wpAny (model prog w) A (compareOp .NotEq (.ref a) (.ref b)) Q E s := by
  have r1 : Reads s.heap (.ref a) (.tuple [.tuple (ns.map PyData.int), .int n]) _ := Reads.tuple (N _ h1).1 rfl rfl (.cons (Reads.tuple (N _ h2).1 rfl rfl (i1.reads s.heap)) (.cons (.int _ _) .nil))
  have r2 : Reads s.heap (.ref b) (.tuple [.tuple (ns.map PyData.int), .int n]) _ := Reads.tuple (N _ h3).1 rfl rfl (.cons (Reads.tuple (N _ h4).1 rfl rfl (i2.reads s.heap)) (.cons (.int _ _) .nil))
  refine SeqAt.compareNe_reads r1 r2 (can_norm _ _) (can_norm _ _) (by have := depth_norm ns n; omega) ?_
  rw [SeqAt.eqv_refl _ (can_norm ns n)]
  exact h
end
end Mine
namespace Mine
section
variable {prog : Program} {w : World} {A : Around} {E : Value → Shared → Prop} {s : Shared} {h₀ : Heap} {L : Addr} {news : List (Addr × Obj)}
theorem ne_pair {p q : Addr} {a b a' b' : Int} {t u t' u' : Tok} {k1 k2 : Nat} {Q : Value → Shared → Prop} (N : News h₀ L s.heap news)
    (h1 : (p, ({ cls := .type "tuple", data := .seq [Value.int a t, .int b u].toArray k1 } : Obj)) ∈ news) (h2 : (q, ({ cls := .type "tuple", data := .seq [Value.int a' t', .int b' u'].toArray k2 } : Obj)) ∈ news)
    (ha : a = a') (hb : b = b') (hu : A.units + 8 < cLine) (h : Q (.bool false) s) : wpAny (model prog w) A (compareOp .NotEq (.ref p) (.ref q)) Q E s := by
  subst ha hb
  have r1 : Reads s.heap (.ref p) (.tuple [.int a, .int b]) _ := Reads.tuple (N _ h1).1 rfl rfl (.cons (.int _ _) (.cons (.int _ _) .nil))
  have r2 : Reads s.heap (.ref q) (.tuple [.int a, .int b]) _ := Reads.tuple (N _ h2).1 rfl rfl (.cons (.int _ _) (.cons (.int _ _) .nil))
  have hc : (PyData.tuple [.int a, .int b]).canLay0 = true := by simp [PyData.canLay0, PyData.canLayAll0]
  have hd : (PyData.tuple [.int a, .int b]).depth ≤ 8 := by simp [PyData.depth, PyData.depthAll]
  refine SeqAt.compareNe_reads r1 r2 hc hc (by omega) ?_
  rw [SeqAt.eqv_refl _ hc]
  exact h
end
end Mine

end PartPNe
section DryPInd
local macro_rules | `(tactic| walk_at "z0") => `(tactic| skip)
theorem Mine.offPInd : True := by
  w_top off
  k_with_none
  try walk1
  trivial
end DryPInd
section PartPInd
open PySem PySem.W PyProof.Rows
set_option maxRecDepth 100000
set_option maxHeartbeats 8000000
set_option linter.unusedSectionVars false
open PySem.Flt
namespace Mine
open PyProof.Rows.LCg (NsObj lst lst_snoc ns_obj)

noncomputable def ilF (ns : List Int) (tz : Int) : Nat → Int
  | 0 => 0
  | i + 1 => ilF ns tz i + (tz + (i : Int)).fdiv tz * ns.getD (tz + (i : Int)).toNat 0
noncomputable def indF (ns : List Int) (tr nt tz : Int) : Int := tr + tz * (ilF ns tz ((ns.length : Int) - tz).toNat + nt)

theorem ind_size {a b : Int} (h1 : 1 ≤ a) (h2 : a ≤ 100) (h3 : 0 ≤ b) (h4 : b ≤ 100) : Builtin.Range.rangeSize a b 1 = (((b - a).toNat : Nat) : Int) := by
  simp only [Builtin.Range.rangeSize]
  split <;> simp <;> omega
theorem ind_small {a b : Int} (h1 : 1 ≤ a) (h2 : a ≤ 100) (h3 : 0 ≤ b) (h4 : b ≤ 100) : Builtin.Range.small a b 1 = true := by
  unfold Builtin.Range.small Builtin.Range.rangeFitsLong
  simp only [Bool.and_eq_true, Bool.or_eq_true, decide_eq_true_eq, beq_iff_eq, Builtin.Range.rangeSize]
  split <;> simp <;> omega
theorem mulOk_l {a b : Int} (h : a.natAbs < 2 ^ 20) : IntMulOk a b := by
  unfold IntMulOk
  have e : Builtin.Int.intBits a ≤ 21 := by
    unfold Builtin.Int.intBits
    split
    · omega
    · rename_i hz
      have hz' : a.natAbs ≠ 0 := by simpa using hz
      have := (Nat.log2_lt hz').mpr h
      omega
  have e2 : decide (Builtin.Int.intBits a > shortFactorBits) = false := by
    rw [decide_eq_false_iff_not]
    have : (21 : Nat) ≤ shortFactorBits := by decide
    omega
  rw [e2]
  simp
theorem fdiv_small {tz : Int} {i : Nat} (h1 : 1 ≤ tz) (h2 : tz ≤ 100) (hi : i ≤ 1000) : ((tz + (i : Int)).fdiv tz).natAbs < 2 ^ 20 := by
  rw [Int.fdiv_eq_ediv_of_nonneg _ (by omega)]
  have h3 : 0 ≤ (tz + (i : Int)) / tz := Int.ediv_nonneg (by omega) (by omega)
  have h4 : (tz + (i : Int)) / tz ≤ tz + (i : Int) := Int.ediv_le_self _ (by omega)
  omega
section
variable {prog : Program} {w : World} {A : Around} {E : Value → Shared → Prop} {s : Shared} {h₀ : Heap} {L : Addr} {news : List (Addr × Obj)}
theorem len_tup {l : Addr} {vs : List Value} {ns : List Int} {kk : Nat} {Q : Value → Shared → Prop} (N : News h₀ L s.heap news) (hl : (l, ({ cls := .type "tuple", data := .seq vs.toArray kk } : Obj)) ∈ news) (hI : IntsAre vs ns) (hn : ns.length ≤ 1000)
    (h : ∀ t tk', Q (.int (ns.length : Int) t) { s with toks := tk' }) : wpAny (model prog w) A (call (.builtin "len") [.ref l]) Q E s := by
  have e := IntsAre.length hI
  refine len_tuple (items := vs.toArray) ⟨_, (N _ hl).1, rfl, _, rfl⟩ (by rw [List.size_toArray]; omega) ?_
  rw [List.size_toArray, e]
  exact h _ _
theorem item_tup {value slice : PySem.Expr} {l : Addr} {vs : List Value} {ns : List Int} {kk : Nat} {k : Int} {u : Tok} {Q : Value → Shared → Prop} (N : News h₀ L s.heap news) (hl : (l, ({ cls := .type "tuple", data := .seq vs.toArray kk } : Obj)) ∈ news) (hI : IntsAre vs ns) (h0 : 0 ≤ k) (hk : k < (ns.length : Int)) (hb : k < 1000)
    (h : ∀ t, Q (.int (ns.getD k.toNat 0) t) s) (hs : subscripted slice false (.ref l) (.int k u) = operate [.ref l, .int k u] (getItem (.ref l) (.int k u)) := by with_unfolding_all rfl) (ht : ∀ r, letTemporaryGo value (.ref l) r = pure () := by intro _; rfl) :
    wpAny (model prog w) A (subscriptTail value slice (.ref l) (.int k u)) Q E s :=
  item_tuple_ints ⟨_, (N _ hl).1, rfl, _, rfl⟩ hI h0 hk (by omega) h hs ht
end

local macro_rules | `(tactic| walk_at "call builtin:len") => `(tactic| (k_here; (with_reducible show wpAny _ _ (call (Value.builtin "len") [Value.ref _]) _ _ _); k_dflt (refine' len_tup ?k1 ?k2 ?k3 ?k4 ?_; (case k1 => k_asm); (case k2 => k_mem); (case k3 => assumption); (case k4 => omega)); intro _ _))
local macro_rules | `(tactic| k_all) => `(tactic| assumption)
local macro_rules | `(tactic| walk_at "exec For Name Call cons nil") => `(tactic| (k_here; k_dflt (refine for_enter (by intro _; with_unfolding_all rfl) ?_)))
section
variable {w : World} {mean : ExcName → Option Value} {mg mb : Str → Option Value} {dp un : Nat} {gd : Option (List Code)} {cn : Str} {cs : Scope} {a : Addr} {ccd : Value} {cl : List (Str × Addr)} {outer : List Env} {A₀ : Around} {base h₀ : Heap} {L : Addr} {m : Str → Option Value} {news : List (Addr × Obj)} {s : Shared} {Q E : Value → Shared → Prop}
 (B : Below A₀ base outer h₀) (F : Fr h₀ L s.heap m) (X : (Mine.hd.heap_1 w.params).In h₀) (N : News h₀ L s.heap news)
 (T : Top Mine.hd.view_1 (looseW Mine.hd.view_1 [Str.ofString "insort_right", Str.ofString "bisect_right", Str.ofString "insort_left", Str.ofString "bisect_left", Str.ofString "Whitespace"]) mean mg mb h₀) (hk : cs.kind = .function) (hd : dp + 2 < recursionLimit) (hu : un + 16 < cLine)
include B F X N T hk hd hu

theorem ind_c {o dx nm ct : Addr} {cv : List Value} {ns : List Int} {raw vn vs5 : Value} {k1 k2 k3 k4 k5 tnt tb tt : Tok} {kk : Nat} {nt tr tz : Int} (ho : (o, instObj 147 dx) ∈ news) (hdx : (dx, dictOf [⟨PyData.keyHash w.params (Str.ofString "raw"), .str (Str.ofString "raw") k1, raw⟩, ⟨PyData.keyHash w.params (Str.ofString "n"), .str (Str.ofString "n") k2, vn⟩, ⟨PyData.keyHash w.params (Str.ofString "nt"), .str (Str.ofString "nt") k3, .int nt tnt⟩, ⟨PyData.keyHash w.params (Str.ofString "norm"), .str (Str.ofString "norm") k4, .ref nm⟩, ⟨PyData.keyHash w.params (Str.ofString "is_simple"), .str (Str.ofString "is_simple") k5, vs5⟩] kk) ∈ news) (hnm : (nm, tupO [.ref ct, .int tr tb]) ∈ news) (hct : (ct, tupO cv) ∈ news) (hI : IntsAre cv ns) (hl : ns.length ≤ 100) (h1 : 1 ≤ tz) (h2 : tz ≤ 100)
 (ret : ∀ t h' tk', Fr h₀ L h' m → News h₀ L h' news → Q (.int (indF ns tr nt tz) t) {s with heap := h', toks := tk'})
 : wpAny (model PySem.Challenge.rw_sc0103_01.row.prog w) (ktrTop dp un gd cn cs L a ccd cl outer) (call (.ref 116) [.ref o, .int tz tt]) Q E s := by
  refine wpAny_call ?_
  k_dflt (refine' code_def ?k1 ?k2 ?k3 ?k4 ?k5 ?kA ?kF ?kK ?k6 ?k7 ?k8 ?k9 ?kB ?_ ?c2 ?c3 ?c4 ?c5; (case kA => exact rfl); (case kF => exact rfl); (case kK => assumption); (case k1 => k_asm); (case k2 => k_asm); (case k3 => k_asm); (case k4 => k_asm); (case k5 => k_asm); (case k6 => k_is); (case k7 => k_is); (case k8 => ktr_room); (case k9 => first | exact BindsTo.of_eq rfl | exact binds_K (by k_in) rfl (by k_is) rfl rfl rfl | (refine' binds_KW ?x1 ?x2 ?x3 ?x4 ?x5 ?x6 ?x7 ?x8; (case x1 => k_in); (case x2 => exact rfl); (case x3 => k_is); (case x4 => exact rfl); (case x5 => exact rfl); (case x6 => exact rfl); (case x7 => k_is); (case x8 => exact rfl))); (case c5 => decide); (case kB => exact locs rfl); (case c2 => exact rfl); (case c3 => exact rfl); (case c4 => exact rfl); k_whole; intro g' L' h' FG' F' N' B' X' T'; (try dsimp only); (try k_fold))
  try ((show let A0z := _; let Q0z := _; let E0z := _; wpAny _ A0z _ Q0z E0z _); intro A0z Q0z E0z)
  (k_steps <;> repeat' (first | ((k_here; (with_reducible refine mul_int ?_ (mulOk_l (by first | omega | exact fdiv_small (by assumption) (by assumption) (by omega))))) <;> k_steps) | ((k_here; (with_reducible refine floordiv_int ?h0 ?_ (Or.inl (PyProof.noPylong_small (by omega)))); (case h0 => omega)) <;> k_steps) | ((k_here; (with_reducible show wpAny _ _ (subscriptTail _ _ (Value.ref _) (Value.int _ _)) _ _ _); k_dflt (refine' item_tup ?k1 ?k2 ?k3 ?k4 ?k5 ?k6 ?_; (case k1 => k_asm); (case k2 => k_mem); (case k3 => assumption); (case k4 => omega); (case k5 => omega); (case k6 => omega)); intro _) <;> k_steps)))
  rename IsRange _ _ _ _ _ _ _ _ => hR
  refine for_range (by rfl) (by rfl) rfl (by passes_own) (JS (fun c : Int × Tok => [(Str.ofString "il", Value.int c.1 c.2)]) _ (fun i c => c.1 = ilF ns tz i) [Str.ofString "i"] _) (by k_asm) (by k_asm) (js0 (Led := fun _ => _) (0, _) rfl (by kst_all)) hR (ind_small h1 h2 (by omega) (by omega)) (ind_size h1 h2 (by omega) (by omega)) (step_S ?hx ?turn) (fin_S ?fin)
  case hx => (intro c p hp; obtain rfl := List.mem_singleton.mp hp; exact (by decide : Str.ofString "il" ≠ Str.ofString "i"))
  case turn =>
    rintro i v ⟨il, tc⟩ u It oI hp tk hi ⟨tv, rfl⟩ hc off F9 N9
    dsimp only at hc F9
    subst hc
    have hct9 := List.mem_cons_of_mem (It, oI) hct
    clear hct
    try ((show let A0z := _; let Q0z := _; let E0z := _; wpAny _ A0z _ Q0z E0z _); intro A0z Q0z E0z)
    (k_steps <;> repeat' (first | ((k_here; (with_reducible refine mul_int ?_ (mulOk_l (by first | omega | exact fdiv_small (by assumption) (by assumption) (by omega))))) <;> k_steps) | ((k_here; (with_reducible refine floordiv_int ?h0 ?_ (Or.inl (PyProof.noPylong_small (by omega)))); (case h0 => omega)) <;> k_steps) | ((k_here; (with_reducible show wpAny _ _ (subscriptTail _ _ (Value.ref _) (Value.int _ _)) _ _ _); k_dflt (refine' item_tup ?k1 ?k2 ?k3 ?k4 ?k5 ?k6 ?_; (case k1 => k_asm); (case k2 => k_mem); (case k3 => assumption); (case k4 => omega); (case k5 => omega); (case k6 => omega)); intro _) <;> k_steps)))
    all_goals exact ⟨(_, _), _, _, _, rfl, by k_asm, by k_asm, off, rfl, by kst_all, by (intro z h2 h3; (have h3' := h3); (simp only [List.forall_mem_cons, List.not_mem_nil, false_implies, implies_true, and_true, ne_eq] at h2); (simp only [List.contains_cons, List.contains_nil, Bool.or_false, Bool.or_eq_false_iff, beq_eq_false_iff_ne, ne_eq] at h3); simp only [mapS, kstB, h2, h3, h3', if_false, Bool.false_eq_true])⟩
  case fin =>
    rintro ⟨il, tc⟩ u hp tk hc F9 N9
    dsimp only at hc
    subst hc
    try ((show let A0z := _; let Q0z := _; let E0z := _; wpAny _ A0z _ Q0z E0z _); intro A0z Q0z E0z)
    (k_steps <;> repeat' (first | ((k_here; (with_reducible refine mul_int ?_ (mulOk_l (by first | omega | exact fdiv_small (by assumption) (by assumption) (by omega))))) <;> k_steps) | ((k_here; (with_reducible refine floordiv_int ?h0 ?_ (Or.inl (PyProof.noPylong_small (by omega)))); (case h0 => omega)) <;> k_steps) | ((k_here; (with_reducible show wpAny _ _ (subscriptTail _ _ (Value.ref _) (Value.int _ _)) _ _ _); k_dflt (refine' item_tup ?k1 ?k2 ?k3 ?k4 ?k5 ?k6 ?_; (case k1 => k_asm); (case k2 => k_mem); (case k3 => assumption); (case k4 => omega); (case k5 => omega); (case k6 => omega)); intro _) <;> k_steps)))
    all_goals exact ret _ _ _ (by k_asm) (cb_drop (by k_asm) (fun p hp => by simp [hp]))

end
end Mine

end PartPInd
section PartPMul
open PySem PySem.W PyProof.Rows
set_option maxRecDepth 100000
set_option maxHeartbeats 8000000
set_option linter.unusedSectionVars false
open PySem.Flt
namespace Mine
open PyProof.Rows.LCg (NsObj lst lst_snoc ns_obj)

theorem fold_arr (x : Array Nat) : ∀ (k : Nat) (a : Array Nat), (List.foldl (fun x1 x2 => x1 ++ x2) a (List.replicate k x)).toList = a.toList ++ (List.replicate k x.toList).flatten
  | 0, a => by simp
  | k + 1, a => by
    rw [List.replicate_succ, List.foldl_cons, fold_arr x k, List.replicate_succ, List.flatten_cons]
    simp
theorem mul_rep (x : Str) (k : Nat) : Txt.mul x (k : Int) = mkS (List.replicate k x.cps.toList).flatten := by
  unfold Txt.mul
  by_cases h0 : (k : Int) < 1
  · rw [if_pos h0]
    obtain rfl : k = 0 := by omega
    rfl
  · rw [if_neg h0]
    apply Str.ext'
    apply Array.toList_inj.mp
    by_cases h1 : ((k : Int) == 1 || x.length == 0) = true
    · rw [if_pos h1]
      rcases Bool.or_eq_true _ _ ▸ h1 with q | q
      · obtain rfl : k = 1 := by have := eq_of_beq q; omega
        simp [mkS]
      · have hx : x.cps.toList = [] := by
          have : x.cps.size = 0 := eq_of_beq q
          simpa using this
        rw [hx]
        simp [mkS]
    · rw [if_neg h1]
      show (List.foldl (fun (x1 x2 : Array Nat) => x1 ++ x2) #[] (List.replicate ((k : Int)).toNat x.cps)).toList = _
      rw [Int.toNat_natCast, fold_arr]
      simp [mkS]
theorem mul_len (x : Str) (k : Nat) : (Txt.mul x (k : Int)).length = k * x.length := by
  rw [mul_rep, mkS_len, List.length_flatten]
  simp [Str.length]
theorem jl_chars : ∀ (l : List Bool), jl ([] :: (l.map (fun c => [ch c]) ++ [[]])) = [46, 46, 46] ++ (l.map fun c => [ch c, 46, 46, 46]).flatten
  | [] => rfl
  | c :: l => by
    have ih := jl_chars l
    cases l with
    | nil => rfl
    | cons d l =>
      simp only [List.map_cons, List.cons_append, jl, List.nil_append, List.flatten_cons] at ih ⊢
      simp only [List.cons.injEq, true_and] at ih
      rw [ih]
noncomputable abbrev dT : Str := Str.ofString "\t..."
noncomputable abbrev dB : Str := Str.ofString " ..."
noncomputable abbrev d3 : Str := Str.ofString "..."
noncomputable def midB (k b : Nat) : List Bool := List.replicate k false ++ List.replicate b true
theorem want_is (k b : Nat) : d3 ++ Txt.mul dB (k : Int) ++ Txt.mul dT (b : Int) = mkS (jl ([] :: ((midB k b).map (fun c => [ch c]) ++ [[]]))) := by
  rw [jl_chars, mul_rep, mul_rep]
  apply Str.ext'
  apply Array.toList_inj.mp
  have e3 : d3.cps.toList = [46, 46, 46] := rfl
  have eB : dB.cps.toList = [32, 46, 46, 46] := rfl
  have eT : dT.cps.toList = [9, 46, 46, 46] := rfl
  rw [Str.cps_append, Str.cps_append, Array.toList_append, Array.toList_append, e3, eB, eT]
  simp [mkS, midB, ch]
theorem want_no (k b : Nat) : ∀ p ∈ ([] : List Nat) :: ((midB k b).map (fun c => [ch c]) ++ [[]]), 46 ∉ p := by
  intro p hp
  simp only [List.mem_cons, List.mem_append, List.mem_map, List.not_mem_nil, or_false] at hp
  rcases hp with rfl | ⟨c, _, rfl⟩ | rfl
  · simp
  · cases c <;> decide
  · simp
theorem want_sp (k b : Nat) : Txt.split (d3 ++ Txt.mul dB (k : Int) ++ Txt.mul dT (b : Int)) (Str.ofString "...") = Str.ofString "" :: ((midB k b).map (fun c => tx [c]) ++ [Str.ofString ""]) := by
  rw [want_is]
  have h := want_no k b
  generalize hm : midB k b = mid at *
  cases mid with
  | nil => exact split_dots (p := []) (q := []) (r := []) h
  | cons c l =>
    have e := split_dots (p := []) (q := [ch c]) (r := l.map (fun c => [ch c]) ++ [[]]) (fun p hp => h p (by simpa using hp))
    simp only [List.map_cons, List.map_append, List.map_map, List.map_nil, List.cons_append] at e ⊢
    rw [e]
    rfl
theorem want_ne (k b : Nat) : (Builtin.Str.occurrences (d3 ++ Txt.mul dB (k : Int) ++ Txt.mul dT (b : Int)) (Str.ofString "...") 0 (d3 ++ Txt.mul dB (k : Int) ++ Txt.mul dT (b : Int)).length 1).isEmpty = false := by
  rw [want_is]
  have h := want_no k b
  generalize hm : midB k b = mid at *
  cases mid with
  | nil => exact has_dots (p := []) (q := []) (r := []) h
  | cons c l => exact has_dots (p := []) (q := [ch c]) (r := l.map (fun c => [ch c]) ++ [[]]) (fun p hp => h p (by simpa using hp))
theorem want_len (k b : Nat) : (d3 ++ Txt.mul dB (k : Int) ++ Txt.mul dT (b : Int)).length = 3 + 4 * k + 4 * b := by
  have e : ∀ x y : Str, (x ++ y).length = x.length + y.length := fun x y => by show (x ++ y).cps.size = _; rw [Str.cps_append, Array.size_append]; rfl
  rw [e, e, mul_len, mul_len]
  have e3 : d3.length = 3 := rfl
  have eB : dB.length = 4 := rfl
  have eT : dT.length = 4 := rfl
  rw [e3, eB, eT]; omega
section
variable {prog : Program} {w : World} {A : Around} {E : Value → Shared → Prop} {s : Shared}
theorem mulOk_small {x : Str} {k : Nat} (hx : x.length ≤ 10) (hk : k ≤ 1000) : MulOk x (k : Int) := by
  exact mulOk_of 10 1000 hx (by omega) (by omega) (by decide) (by decide)
theorem mul_k {x : Str} {n : Int} {k : Nat} {t u : Tok} {Q : Value → Shared → Prop} (hn : n = (k : Int)) (hx : x.length ≤ 10) (hk : k ≤ 1000) (h : ∀ t' tk, Q (.str (Txt.mul x (k : Int)) t') { s with toks := tk }) : wpAny (model prog w) A (binaryOp .Mult (.str x t) (.int n u)) Q E s := by
  subst hn
  exact SB.mul (mulOk_small hx hk) h
theorem add_m1 {k : Nat} {t u : Tok} {Q : Value → Shared → Prop} (hk : k ≤ 1000) (h : ∀ t' tk, Q (.str (d3 ++ Txt.mul dB (k : Int)) t') { s with toks := tk }) : wpAny (model prog w) A (binaryOp .Add (.str d3 t) (.str (Txt.mul dB (k : Int)) u)) Q E s := by
  refine add_str h ?_
  have e3 : d3.length = 3 := rfl
  have eB : dB.length = 4 := rfl
  rw [mul_len, e3, eB, PySem.sizeLine_eq]; omega
theorem add_m2 {k b : Nat} {t u : Tok} {Q : Value → Shared → Prop} (hk : k ≤ 1000) (hb : b ≤ 1000) (h : ∀ t' tk, Q (.str (d3 ++ Txt.mul dB (k : Int) ++ Txt.mul dT (b : Int)) t') { s with toks := tk }) : wpAny (model prog w) A (binaryOp .Add (.str (d3 ++ Txt.mul dB (k : Int)) t) (.str (Txt.mul dT (b : Int)) u)) Q E s := by
  refine add_str h ?_
  have e := want_len k b
  have e2 : ∀ x y : Str, (x ++ y).length = x.length + y.length := fun x y => by show (x ++ y).cps.size = _; rw [Str.cps_append, Array.size_append]; rfl
  rw [e2] at e
  rw [e, PySem.sizeLine_eq]; omega
end
section
variable {w : World} {mean : ExcName → Option Value} {mg mb : Str → Option Value} {dp un : Nat} {gd : Option (List Code)} {cn : Str} {cs : Scope} {a : Addr} {ccd : Value} {cl : List (Str × Addr)} {outer : List Env} {A₀ : Around} {base h₀ : Heap} {L : Addr} {m : Str → Option Value} {news : List (Addr × Obj)} {s : Shared} {Q E : Value → Shared → Prop}
 (B : Below A₀ base outer h₀) (F : Fr h₀ L s.heap m) (X : (Mine.hd.heap_1 w.params).In h₀) (N : News h₀ L s.heap news)
 (T : Top Mine.hd.view_1 (looseW Mine.hd.view_1 [Str.ofString "insort_right", Str.ofString "bisect_right", Str.ofString "insort_left", Str.ofString "bisect_left", Str.ofString "Whitespace"]) mean mg mb h₀) (hk : cs.kind = .function) (hd : dp + 2 < recursionLimit) (hu : un + 16 < cLine)
include B F X N T hk hd hu

theorem ell_k {bs : List Bool} {k b : Nat} {v : Bool} {t1 t2 : Tok} (hg : bs.length ≤ 1000) (hk1 : k ≤ 100) (hb : b ≤ 101) (hv : subB (midB k b) bs = v)
 (ret : ∀ h' tk', Fr h₀ L h' m → News h₀ L h' news → Q (.bool v) {s with heap := h', toks := tk'})
 : wpAny (model PySem.Challenge.rw_sc0103_01.row.prog w) (ktrTop dp un gd cn cs L a ccd cl outer) (call (.ref 85) [.str (d3 ++ Txt.mul dB (k : Int) ++ Txt.mul dT (b : Int)) t1, .str (tx bs) t2]) Q E s := by
  subst hv
  refine ell_many B F X N T hk hd hu (by rw [want_len]; omega) hg ?_ (want_ne k b) (want_sp k b) ret
  simp [midB]; omega

end
end Mine

end PartPMul
section DryPTold
local macro_rules | `(tactic| walk_at "z0") => `(tactic| skip)
theorem Mine.offPTold : True := by
  w_top off
  k_with_none
  try walk1
  trivial
end DryPTold
section PartPTold
open PySem PySem.W PyProof.Rows
set_option maxRecDepth 100000
set_option maxHeartbeats 8000000
set_option linter.unusedSectionVars false
open PySem.Flt
namespace Mine
open PyProof.Rows.LCg (NsObj lst lst_snoc ns_obj)
local macro_rules | `(tactic| walk_at "exec Assign cons ListComp") => `(tactic| (k_here; k_dflt (refine comp_A (by k_asm) rfl rfl (by with_unfolding_all rfl) (by with_unfolding_all rfl) (by decide) (by rfl) (by decide) (by intro _; with_unfolding_all rfl) (by rfl) (by rfl) ?_)))
local macro_rules | `(tactic| walk_at "exec Assign cons ListComp") => `(tactic| (k_here; (with_reducible show wpAny _ _ (exec (.Assign _ (.ListComp _ [⟨_, .Call (.Name _ _) _ _ _, _, _⟩] _ _) _) _) _ _ _); k_dflt (refine comp_AR (by k_asm) rfl rfl (by with_unfolding_all rfl) (by with_unfolding_all rfl) (by decide) (by rfl) (by rfl) (by decide) (by intro _; with_unfolding_all rfl) (by rfl) (by rfl) ?_)))

theorem cells_two {cm : Str → Option Value} {a b : Str} {x y : Addr} {cells : List (Addr × Obj)} (h : CellsAre cm [(a, x), (b, y)] cells) : ∃ o1 o2, cells = [(x, o1), (y, o2)] ∧ o1.data = .cell (cm a) ∧ o2.data = .cell (cm b) := by
  cases h with
  | cons e1 h => cases h with
    | cons e2 h => cases h; exact ⟨_, _, rfl, e1, e2⟩
noncomputable def nums (l : List Nat) : List Int := l.map Int.ofNat
theorem got_lens {vs ys : List Value} {ps : List Str} (S : StrsAre vs ps) (got : Got vs ys fun j y => ∃ p t, ps[j]? = some p ∧ y = .int (p.length : Int) t) : IntsAre ys (nums (ps.map Str.length)) := by
  obtain ⟨h1, h2⟩ := got
  have hl := StrsAre.len_eq S
  have key : ∀ (ys : List Value) (ps : List Str), ys.length = ps.length → (∀ j, j < ps.length → ∃ y, ys[j]? = some y ∧ ∃ p t, ps[j]? = some p ∧ y = .int (p.length : Int) t) → IntsAre ys (nums (ps.map Str.length)) := by
    intro ys
    induction ys with
    | nil => intro ps hl _; cases ps with
      | nil => exact .nil
      | cons => cases hl
    | cons y ys ih => intro ps hl hj; cases ps with
      | nil => cases hl
      | cons p ps =>
        obtain ⟨y', e, p', t, ep, ey⟩ := hj 0 (by simp)
        simp at e ep
        subst e ep ey
        refine .cons _ t (ih ps (by simpa using hl) fun j hj' => ?_)
        obtain ⟨y', e, r⟩ := hj (j + 1) (by simpa using hj')
        exact ⟨y', by simpa using e, by simpa using r⟩
  exact key ys ps (by rw [h1, hl]) (by rw [← hl]; exact h2)
theorem ints_take {vs : List Value} {ns : List Int} (h : IntsAre vs ns) : ∀ k, IntsAre (vs.take k) (ns.take k) := by
  induction h with
  | nil => intro k; simp; exact .nil
  | cons n t _ ih => intro k; cases k with
    | zero => exact .nil
    | succ k => exact .cons _ _ (ih k)
theorem ints_drop {vs : List Value} {ns : List Int} (h : IntsAre vs ns) : ∀ k, IntsAre (vs.drop k) (ns.drop k) := by
  induction h with
  | nil => intro k; simp; exact .nil
  | cons n t h ih => intro k; cases k with
    | zero => exact .cons _ _ h
    | succ k => exact ih k
theorem ints_last {vs : List Value} {gp : List Nat} {la : Nat} (h : IntsAre vs (nums (gp ++ [la]))) : ∃ t, vs[vs.length - 1]? = some (.int (la : Int) t) := by
  have hl := IntsAre.length h
  have e : (nums (gp ++ [la]))[vs.length - 1]? = some (la : Int) := by
    have : (nums (gp ++ [la])).length = gp.length + 1 := by simp [nums]
    rw [hl, this]
    simp [nums]
  have key : ∀ (vs : List Value) (ns : List Int), IntsAre vs ns → ∀ (j : Nat) (n : Int), ns[j]? = some n → ∃ t, vs[j]? = some (Value.int n t) := by
    intro vs ns h
    induction h with
    | nil => intro j n e; simp at e
    | cons n t _ ih => intro j m e; cases j with
      | zero => simp at e; subst e; exact ⟨t, rfl⟩
      | succ j => exact ih j m (by simpa using e)
  exact key vs _ h _ _ e
theorem ints_but {vs : List Value} {gp : List Nat} {la : Nat} (h : IntsAre vs (nums (gp ++ [la]))) : IntsAre (vs.take (vs.length - 1)) (nums gp) := by
  have hl := IntsAre.length h
  have h2 := ints_take h (vs.length - 1)
  have : (nums (gp ++ [la])).take (vs.length - 1) = nums gp := by
    have : (nums (gp ++ [la])).length = gp.length + 1 := by simp [nums]
    rw [hl, this]
    simp [nums]
  rw [this] at h2
  exact h2
theorem butLast (vs : List Value) : slicePick vs.toArray none (some (-1)) none = (vs.take (vs.length - 1)).toArray := by
  have := slicePick_butLast vs.toArray 1 (Nat.le_refl _)
  simpa using this
section
variable {prog : Program} {w : World} {A : Around} {E : Value → Shared → Prop} {s : Shared} {h₀ : Heap} {L : Addr} {m : Str → Option Value} {news : List (Addr × Obj)}
theorem slice_led {value slice : PySem.Expr} {l : Addr} {vs vs' : List Value} {kk : Nat} {vl vu : Value} {lo hi : Option Int} {Q : Value → Shared → Prop} (F : Fr h₀ L s.heap m) (N : News h₀ L s.heap news) (hl : (l, listO vs kk) ∈ news) (p1 : IsPart vl lo) (p2 : IsPart vu hi)
    (e : slicePick vs.toArray lo hi none = vs'.toArray) (hn : vs.length ≤ 1000) (h : ∀ D h', Fr h₀ L h' m → News h₀ L h' ((D, listO vs' 0) :: news) → (∀ p ∈ news, p.1 < D) → Q (.ref D) { s with heap := h' })
    (hs : subscripted slice false (.ref l) (.ref s.heap.objs.size) = operate [.ref s.heap.objs.size, .ref l] (getItem (.ref l) (.ref s.heap.objs.size)) := by with_unfolding_all rfl) (ht : ∀ r, letTemporaryGo value (.ref l) r = pure () := by intro _; rfl) :
    wpAny (model prog w) A (subscriptTail value slice (.ref l) (.ref s.heap.objs.size)) Q E { s with heap := s.heap.push { cls := .type "slice", data := .fields #[vl, vu, .none] } } := by
  have hL : s.heap.IsList l vs.toArray := ⟨_, (N _ hl).1, rfl, _, rfl⟩
  refine kmk_slice F N hL p1 p2 (fun D h' F' N' lt => h D h' F' ?_ lt) hs ht (by rw [List.size_toArray, PySem.sizeLine_eq]; omega)
  rw [e] at N'
  exact N'
theorem add_ints {l b : Addr} {vs us : List Value} {kk kk' : Nat} {ns ms : List Int} {Q : Value → Shared → Prop} (F : Fr h₀ L s.heap m) (N : News h₀ L s.heap news) (h1 : (l, listO vs kk) ∈ news) (h2 : (b, listO us kk') ∈ news) (i1 : IntsAre vs ns) (i2 : IntsAre us ms) (hn : ns.length + ms.length ≤ 1000)
    (h : ∀ D h', Fr h₀ L h' m → News h₀ L h' ((D, listO (vs ++ us) 0) :: news) → (∀ p ∈ news, p.1 < D) → IntsAre (vs ++ us) (ns ++ ms) → Q (.ref D) { s with heap := h' }) :
    wpAny (model prog w) A (binaryOp .Add (.ref l) (.ref b)) Q E s := by
  refine add_arrays_ints F N (its := vs.toArray) (its2 := us.toArray) ⟨_, (N _ h1).1, rfl, _, rfl⟩ ⟨_, (N _ h2).1, rfl, _, rfl⟩ i1 i2 (fun h' F' N' I' => h _ h' F' N' (fun p hp => Heap.lt_size (N p hp).1) I') (by rw [PySem.sizeLine_eq]; omega)
theorem tup_led {l : Addr} {vs : List Value} {kk : Nat} {Q : Value → Shared → Prop} (F : Fr h₀ L s.heap m) (N : News h₀ L s.heap news) (hl : (l, listO vs kk) ∈ news) (hn : vs.length ≤ 1000)
    (h : ∀ D h', Fr h₀ L h' m → News h₀ L h' ((D, tupO vs) :: news) → Q (.ref D) { s with heap := h' }) :
    wpAny (model prog w) A (call (.type "tuple") [.ref l]) Q E s :=
  tuple_ofL F N ⟨_, (N _ hl).1, rfl, _, rfl⟩ (fun D h' F' N' _ => h D h' F' N') (by rw [PySem.sizeLine_eq]; omega)
theorem ne_known {a b : Int} {t u : Tok} {Q : Value → Shared → Prop} (e : a = b) (h : Q (.bool false) s) : wpAny (model prog w) A (compareOp .NotEq (.int a t) (.int b u)) Q E s :=
  ne_int (by simpa [e] using h)
end
noncomputable def mxI (gp : List Nat) : Int := (nums gp).foldl max (-1)
theorem mx_le (l : List Int) : ∀ a : Int, a ≤ l.foldl max a ∧ ∀ x ∈ l, x ≤ l.foldl max a := by
  induction l with
  | nil => intro a; exact ⟨Int.le_refl _, fun x h => nomatch h⟩
  | cons y l ih =>
    intro a
    have h := ih (max a y)
    refine ⟨Int.le_trans (Int.le_max_left _ _) h.1, fun x hx => ?_⟩
    rcases List.mem_cons.mp hx with rfl | hx
    · exact Int.le_trans (Int.le_max_right _ _) h.1
    · exact h.2 x hx
theorem mx_mem (l : List Int) : ∀ a : Int, l.foldl max a = a ∨ l.foldl max a ∈ l := by
  induction l with
  | nil => intro a; exact .inl rfl
  | cons y l ih =>
    intro a
    rcases ih (max a y) with h | h
    · show List.foldl max (max a y) l = a ∨ List.foldl max (max a y) l ∈ _
      rw [h]
      rcases Int.le_total a y with q | q
      · rw [Int.max_eq_right q]; exact .inr List.mem_cons_self
      · rw [Int.max_eq_left q]; exact .inl rfl
    · exact .inr (List.mem_cons_of_mem _ h)
theorem mx_is {gp : List Nat} {M : Int} (h1 : M ∈ [-1] ++ nums gp) (h2 : ∀ a ∈ [-1] ++ nums gp, a ≤ M) : M = mxI gp := by
  have a1 := mx_le (nums gp) (-1)
  have a2 := mx_mem (nums gp) (-1)
  apply Int.le_antisymm
  · rcases List.mem_append.mp h1 with q | q
    · obtain rfl := List.mem_singleton.mp q; exact a1.1
    · exact a1.2 _ q
  · rcases a2 with q | q
    · unfold mxI; rw [q]; exact h2 _ (by simp)
    · exact h2 _ (List.mem_append.mpr (.inr q))
theorem rng_small {gp : List Nat} (h : mxI gp ≤ 100) : Builtin.Range.small 0 (mxI gp + 1) 1 = true := by
  have := (mx_le (nums gp) (-1)).1
  unfold mxI at *
  unfold Builtin.Range.small Builtin.Range.rangeFitsLong
  simp only [Bool.and_eq_true, Bool.or_eq_true, decide_eq_true_eq, beq_iff_eq, Builtin.Range.rangeSize]
  split <;> simp <;> omega
theorem rng_size {gp : List Nat} (h : mxI gp ≤ 100) : Builtin.Range.rangeSize 0 (mxI gp + 1) 1 = (((mxI gp + 1).toNat : Nat) : Int) := by
  have := (mx_le (nums gp) (-1)).1
  unfold mxI at *
  simp only [Builtin.Range.rangeSize]
  split <;> simp <;> omega
noncomputable def cts (gp : List Nat) : List Int := (List.range (mxI gp + 1).toNat).map fun j : Nat => Int.ofNat ((nums gp).count (Int.ofNat j))
theorem ints_of : ∀ (ys : List Value) (ns : List Int), ys.length = ns.length → (∀ j, j < ns.length → ∃ n t, ns[j]? = some n ∧ ys[j]? = some (Value.int n t)) → IntsAre ys ns
  | [], [], _, _ => .nil
  | [], _ :: _, h, _ => by cases h
  | _ :: _, [], h, _ => by cases h
  | y :: ys, n :: ns, hl, h => by
    obtain ⟨n', t, e1, e2⟩ := h 0 (by simp)
    simp at e1 e2
    subst e1 e2
    refine .cons _ t (ints_of ys ns (by simpa using hl) fun j hj => ?_)
    obtain ⟨n', t, e1, e2⟩ := h (j + 1) (by simpa using hj)
    exact ⟨n', t, by simpa using e1, by simpa using e2⟩
theorem got_cts {ys : List Value} {gp : List Nat} (h : GotN (mxI gp + 1).toNat ys fun j y => ∃ t, y = .int (Int.ofNat ((nums gp).count (Int.ofNat j))) t) : IntsAre ys (cts gp) := by
  refine ints_of ys _ (by rw [h.1]; simp [cts]) fun j hj => ?_
  have hj' : j < (mxI gp + 1).toNat := by simpa [cts] using hj
  obtain ⟨y, e, t, rfl⟩ := h.2 j hj'
  exact ⟨_, t, by simp [cts, hj'], e⟩
theorem ints_item {vs : List Value} {gp : List Nat} {j : Nat} {v : Value} (h : IntsAre vs (nums gp)) (hv : vs[j]? = some v) : ∃ (g : Nat) (t : Tok), gp[j]? = some g ∧ v = .int (g : Int) t := by
  have key : ∀ (vs : List Value) (ns : List Int), IntsAre vs ns → ∀ (j : Nat) (v : Value), vs[j]? = some v → ∃ n t, ns[j]? = some n ∧ v = Value.int n t := by
    intro vs ns h
    induction h with
    | nil => intro j v e; simp at e
    | cons n t _ ih => intro j v e; cases j with
      | zero => simp at e; subst e; exact ⟨n, t, rfl, rfl⟩
      | succ j => obtain ⟨n', t', e1, e2⟩ := ih j v (by simpa using e); exact ⟨n', t', by simpa using e1, e2⟩
  obtain ⟨n, t, e1, e2⟩ := key vs _ h j v hv
  unfold nums at e1
  rw [List.getElem?_map] at e1
  cases hg : gp[j]? with
  | none => rw [hg] at e1; cases e1
  | some g => rw [hg] at e1; cases e1; exact ⟨g, t, rfl, e2⟩
theorem got_gs {vs ys : List Value} {gp : List Nat} {f : Int → Int} (h : IntsAre vs (nums gp)) (got : Got vs ys fun j y => ∃ (g : Nat) (t : Tok), gp[j]? = some g ∧ y = .int (f (g : Int)) t) : IntsAre ys ((nums gp).map f) := by
  have hl := IntsAre.length h
  refine ints_of ys _ (by rw [got.1, hl, List.length_map]) fun j hj => ?_
  rw [List.length_map] at hj
  obtain ⟨y, e, g, t, hg, rfl⟩ := got.2 j (by rw [hl]; exact hj)
  exact ⟨f g, t, by simp [nums, hg], e⟩
theorem nums_sum (l : List Nat) (i : Nat) : ((nums l).drop i).sum = (((l.drop i).sum : Nat) : Int) := by
  have key : ∀ l : List Nat, (nums l).sum = ((l.sum : Nat) : Int) := by
    intro l
    induction l with
    | nil => rfl
    | cons a l ih =>
      show (Int.ofNat a :: nums l).sum = _
      rw [List.sum_cons, ih, List.sum_cons]
      rfl
  have e : (nums l).drop i = nums (l.drop i) := by simp [nums]
  rw [e, key]
theorem from_k (vs : List Value) (i : Nat) : slicePick vs.toArray (some (0 + (i : Int))) none none = (vs.drop i).toArray := by
  rw [Int.zero_add]
  simpa using slicePick_from' vs.toArray i
theorem rg_size {a b : Int} {n : Nat} (h : b = a + (n : Int)) : Builtin.Range.rangeSize a b 1 = (n : Int) := by
  subst h
  simp only [Builtin.Range.rangeSize]
  split <;> simp <;> omega
theorem rg_small {a b : Int} (h1 : -1000 ≤ a) (h2 : a ≤ 1000) (h3 : -1000 ≤ b) (h4 : b ≤ 1000) : Builtin.Range.small a b 1 = true := by
  unfold Builtin.Range.small Builtin.Range.rangeFitsLong
  simp only [Bool.and_eq_true, Bool.or_eq_true, decide_eq_true_eq, beq_iff_eq, Builtin.Range.rangeSize]
  split <;> simp <;> omega
theorem mem_part {bs : List Bool} {c : Str} {l : List Nat} {vs : List Value} {j : Nat} {v : Value} (S : StrsAre vs (Txt.split (tx bs) c)) (h : (Txt.split (tx bs) c).map Str.length = l) (hl : ∀ n ∈ l, n ≤ 1000) (hv : vs[j]? = some v) : ∃ p u, (Txt.split (tx bs) c)[j]? = some p ∧ v = .str p u ∧ p.length ≤ 1000 := by
  have hlen := StrsAre.len_eq S
  have hj : j < (Txt.split (tx bs) c).length := by rw [← hlen]; rcases List.getElem?_eq_some_iff.mp hv with ⟨q, _⟩; exact q
  have ep : (Txt.split (tx bs) c)[j]? = some (Txt.split (tx bs) c)[j] := List.getElem?_eq_getElem hj
  obtain ⟨u, eu⟩ := strs_get S ep
  rw [hv] at eu; cases eu
  exact ⟨_, _, ep, rfl, hl _ (h ▸ List.mem_map.mpr ⟨_, List.getElem_mem hj, rfl⟩)⟩

local macro_rules | `(tactic| walk_at "binaryOp Mult str int") => `(tactic| (k_here; k_dflt (refine' mul_k ?h0 ?h1 ?h2 ?_; (case h0 => assumption); (case h1 => exact Nat.le_of_ble_eq_true rfl); (case h2 => omega)); intro _ _))
local macro_rules | `(tactic| walk_at "binaryOp Add str str") => `(tactic| (k_here; (first | (with_reducible refine add_m2 ?h1 ?h2 ?_; (case h1 => omega); (case h2 => omega)) | (with_reducible refine add_m1 ?h1 ?_; (case h1 => omega))); intro _ _))
local macro_rules | `(tactic| walk_at "compareOp NotEq int int") => `(tactic| (k_here; (with_reducible refine ne_known (by assumption) ?_)))
local macro_rules | `(tactic| walk_at "binaryOp Mod int int") => `(tactic| (k_here; (with_reducible refine mod_int' ?h0 ?_); (case h0 => omega)))
local macro_rules | `(tactic| walk_at "exec For Name Call cons nil") => `(tactic| (k_here; k_dflt (refine for_enter (by intro _; with_unfolding_all rfl) ?_)))
local macro_rules | `(tactic| walk_at "compareOp NotEq ref ref") => `(tactic| (k_here; k_dflt (refine' ne_pair ?k1 ?k2 ?k3 ?k4 ?k5 ?ku ?_; (case k1 => k_asm); (case k2 => k_mem); (case k3 => k_mem); (case k4 => omega); (case k5 => omega); (case ku => ktr_units))))
local macro_rules | `(tactic| walk_at "call builtin:len") => `(tactic| (k_here; (with_reducible show wpAny _ _ (call (Value.builtin "len") [Value.ref _]) _ _ _); k_dflt (refine' len_led ?k1 ?k2 ?k3 ?_; (case k1 => k_asm); (case k2 => k_mem); (case k3 => omega)); intro _ _))
local macro_rules | `(tactic| walk_at "call builtin:len") => `(tactic| (k_here; (with_reducible show wpAny _ _ (call (Value.builtin "len") [Value.str (tx _) _]) _ _ _); k_dflt (refine len_tx (by omega) ?_); intro _ _))
local macro_rules | `(tactic| walk_at "compareOp NotEq ref ref") => `(tactic| (k_here; k_dflt (refine' ne_norm ?k1 ?k2 ?k3 ?k4 ?k5 ?k6 ?k7 ?ku ?_; (case k1 => k_asm); (case k2 => k_mem); (case k3 => k_mem); (case k4 => k_mem); (case k5 => k_mem); (case k6 => assumption); (case k7 => assumption); (case ku => ktr_units))))
local macro_rules | `(tactic| walk_at "binaryOp Add str str") => `(tactic| (k_here; k_dflt (refine add_str ?_ (by first | (rw [tx_len, PySem.sizeLine_eq]; show _ + 3 ≤ _; omega) | exact Nat.le_of_ble_eq_true rfl)); intro _ _))
local macro_rules | `(tactic| k_all) => `(tactic| assumption)
local macro_rules | `(tactic| walk_at "storeName") => `(tactic| (k_here; k_dflt (refine' storeX_C ?k1 ?k2 ?k3 ?k4 ?k5 ?_; (case k1 => k_asm); (case k2 => k_asm); (case k3 => rfl); (case k5 => assumption); (case k4 => k_updF)); (intro h9 o9 F9 N9 e9); (try dsimp only); (try k_fold)))
local macro_rules | `(tactic| walk_at "call builtin:len") => `(tactic| (k_here; (with_reducible show wpAny _ _ (call (Value.builtin "len") [Value.str _ _]) _ _ _); k_dflt (refine P.len_str (by omega) ?_)))
local macro_rules | `(tactic| walk_at "subscriptTail Name Slice ref ref") => `(tactic| (k_here; k_dflt (refine' slice_led ?k1 ?k2 ?k3 ?k4 ?k5 ?k6 ?k7 ?_; (case k1 => k_asm); (case k2 => k_asm); (case k3 => k_mem); (case k4 => (first | exact Or.inl ⟨rfl, rfl⟩ | exact Or.inr ⟨_, _, rfl, rfl⟩ | constructor)); (case k5 => (first | exact Or.inl ⟨rfl, rfl⟩ | exact Or.inr ⟨_, _, rfl, rfl⟩ | constructor)); (case k6 => first | exact butLast _ | exact from_k _ _); (case k7 => omega)); (intro D9 h9 F9 N9 l9); (have q9 := allLt_of l9); (dsimp only [AllLt] at q9); (try dsimp only); (try k_fold)))
section
variable {w : World} {mean : ExcName → Option Value} {mg mb : Str → Option Value} {dp un : Nat} {gd : Option (List Code)} {cn : Str} {cs : Scope} {a : Addr} {ccd : Value} {cl : List (Str × Addr)} {outer : List Env} {A₀ : Around} {base h₀ : Heap} {L : Addr} {m : Str → Option Value} {news : List (Addr × Obj)} {s : Shared} {Q E : Value → Shared → Prop}
 (B : Below A₀ base outer h₀) (F : Fr h₀ L s.heap m) (X : (Mine.hd.heap_1 w.params).In h₀) (N : News h₀ L s.heap news)
 (T : Top Mine.hd.view_1 (looseW Mine.hd.view_1 [Str.ofString "insort_right", Str.ofString "bisect_right", Str.ofString "insort_left", Str.ofString "bisect_left", Str.ofString "Whitespace"]) mean mg mb h₀) (hk : cs.kind = .function) (hd : dp + 2 < recursionLimit) (hu : un + 16 < cLine)
include B F X N T hk hd hu

theorem ws_g {bs : List Bool} {t : Tok} {ns : List Int} {b : Nat} (hb : bs.length ≤ 100) (hws : wsRun bs ([], 0) = (ns, b))
 (ret : ∀ h' tk' o dx nm ct cv k1 k2 k3 k4 k5 tn tt tb sb kk, Fr h₀ L h' m → News h₀ L h' ((nm, tupO [.ref ct, .int (b : Int) tb]) :: (ct, tupO cv) :: (o, instObj 147 dx) :: (dx, dictOf [⟨PyData.keyHash w.params (Str.ofString "raw"), .str (Str.ofString "raw") k1, .str (tx bs ++ Str.ofString "x 	") t⟩, ⟨PyData.keyHash w.params (Str.ofString "n"), .str (Str.ofString "n") k2, .int (bs.length : Int) tn⟩, ⟨PyData.keyHash w.params (Str.ofString "nt"), .str (Str.ofString "nt") k3, .int ((bs.countP (· = true) : Nat) : Int) tt⟩, ⟨PyData.keyHash w.params (Str.ofString "norm"), .str (Str.ofString "norm") k4, .ref nm⟩, ⟨PyData.keyHash w.params (Str.ofString "is_simple"), .str (Str.ofString "is_simple") k5, .bool sb⟩] kk) :: news) → IntsAre cv ns → Q (.ref o) {s with heap := h', toks := tk'})
 : wpAny (model PySem.Challenge.rw_sc0103_01.row.prog w) (ktrTop dp un gd cn cs L a ccd cl outer) (call (.ref 147) [.str (tx bs ++ Str.ofString "x 	") t]) Q E s := by
  obtain ⟨rfl, rfl⟩ : ns = (wsRun bs ([], 0)).1 ∧ b = (wsRun bs ([], 0)).2 := by rw [hws]; exact ⟨rfl, rfl⟩
  exact ws_c B F X N T hk hd hu hb ret
end
local macro_rules | `(tactic| walk_at "eval ListComp") => `(tactic| (k_here; k_dflt (refine comp_E (by k_asm) rfl (by with_unfolding_all rfl) (by decide) (by rfl) (by decide) (by intro _; with_unfolding_all rfl) ?_)))
section
variable {w : World} {mean : ExcName → Option Value} {mg mb : Str → Option Value} {dp un : Nat} {gd : Option (List Code)} {cn : Str} {cs : Scope} {a : Addr} {ccd : Value} {cl : List (Str × Addr)} {outer : List Env} {A₀ : Around} {base h₀ : Heap} {L : Addr} {m : Str → Option Value} {news : List (Addr × Obj)} {s : Shared} {Q E : Value → Shared → Prop}
 (B : Below A₀ base outer h₀) (F : Fr h₀ L s.heap m) (X : (Mine.hd.heap_1 w.params).In h₀) (N : News h₀ L s.heap news)
 (T : Top Mine.hd.view_1 (looseW Mine.hd.view_1 [Str.ofString "insort_right", Str.ofString "bisect_right", Str.ofString "insort_left", Str.ofString "bisect_left", Str.ofString "Whitespace"]) mean mg mb h₀) (hk : cs.kind = .function) (hd : dp + 3 < recursionLimit) (hu : un + 24 < cLine)
include B F X N T hk hd hu

set_option maxHeartbeats 1500000 in
theorem told_c {bs : List Bool} {t : Tok} {gp st : List Nat} {la : Nat} (hb0 : bs.length ≤ 50) (hr : (Txt.split (tx bs) (Str.ofString "\t")).map Str.length = gp ++ [la]) (hs : (Txt.split (tx bs) (Str.ofString " ")).map Str.length = st) (hws : wsRun bs ([], 0) = (cts gp, la)) (hnt : bs.countP (· = true) = gp.length) (hcl : (cts gp).length ≤ 100) (hind : ∀ i : Nat, i < bs.length + 1 → indF (cts gp) (la : Int) ((bs.countP (· = true) : Nat) : Int) (1 + (i : Int)) = ((nums gp).map fun g => g + (1 + (i : Int)) - g.fmod (1 + (i : Int))).sum + (la : Int)) (hell : ∀ k, k < st.length → subB (midB k (st.drop k).sum) bs = true ∧ subB (midB k ((st.drop k).sum + 1)) bs = false) (hsum_b : ∀ k, (st.drop k).sum ≤ 100) (hmx : mxI gp ≤ 100) (hgl : gp.length ≤ 100) (hsl : st.length ≤ 100) (hr2 : ∀ n ∈ gp ++ [la], n ≤ 1000) (hs2 : ∀ n ∈ st, n ≤ 1000)
 (ret : ∀ h' tk', Fr h₀ L h' m → News h₀ L h' news → Q (.bool true) {s with heap := h', toks := tk'})
 : wpAny (model PySem.Challenge.rw_sc0103_01.row.prog w) (ktrTop dp un gd cn cs L a ccd cl outer) (call (.ref 173) [.str (tx bs) t]) Q E s := by
  have hb : bs.length ≤ 100 := by omega
  refine wpAny_call ?_
  k_dflt (refine' code_cells ?k1 ?k2 ?k3 ?k4 ?k5 ?kA ?kF ?kK ?k6 ?k7 ?k8 ?k9 ?kB ?c5 ?_ ?c2 ?c3 ?c4; (case kA => exact rfl); (case kF => exact rfl); (case kK => assumption); (case k1 => k_asm); (case k2 => k_asm); (case k3 => k_asm); (case k4 => k_asm); (case k5 => k_asm); (case k6 => k_is); (case k7 => k_is); (case k8 => ktr_room); (case k9 => first | exact BindsTo.of_eq rfl | exact binds_K (by k_in) rfl (by k_is) rfl rfl rfl | (refine' binds_KW ?x1 ?x2 ?x3 ?x4 ?x5 ?x6 ?x7 ?x8; (case x1 => k_in); (case x2 => exact rfl); (case x3 => k_is); (case x4 => exact rfl); (case x5 => exact rfl); (case x6 => exact rfl); (case x7 => k_is); (case x8 => exact rfl))); (case c5 => decide +kernel); (case kB => exact rfl); (case c2 => exact rfl); (case c3 => exact rfl); (case c4 => exact rfl); k_whole; intro g' L' h' tk' cells' FG' F' N' C' B' X' T' lt'; (obtain ⟨o1, o2, rfl, hc1, hc2⟩ := cells_two C'); (replace hc1 : o1.data = .cell none := hc1); (replace hc2 : o2.data = .cell none := hc2); (clear C'); (replace N' : News g' L' h' ((L' + 1 + 1, o1) :: (L' + 1, o2) :: news) := N'); (have ap1 : ∀ p ∈ news, p.1 ≠ L' + 1 := fun p hp => Nat.ne_of_lt (Nat.lt_succ_of_lt (lt' p hp))); (have ap2 : ∀ p ∈ news, p.1 ≠ L' + 1 + 1 := fun p hp => Nat.ne_of_lt (Nat.lt_succ_of_lt (Nat.lt_succ_of_lt (lt' p hp)))); (try dsimp only); (try k_fold))
  replace F' : Fr g' L' h' (fun y => if y = Str.ofString "text" then some (.str (tx bs) t) else none) := F'
  have hr' := congrArg List.length hr
  have hs' := congrArg List.length hs
  simp only [List.length_map, List.length_append, List.length_singleton] at hr' hs'
  (k_steps <;> repeat' (first | ((k_here; (with_reducible show wpAny _ _ (call (Value.builtin "str.split") [Value.str _ _, Value.str _ _]) _ _ _); k_dflt (refine' split_is ?k1 ?k2 ?k3 rfl ?k5 ?_; (case k1 => k_asm); (case k2 => k_asm); (case k3 => rfl); (case k5 => (rw [tx_len]; omega))); (intro D9z vs9z h9z k9z S9z F9z N9z l9z); (have q9z := allLt_of l9z); (dsimp only [AllLt] at q9z); (have L9z := StrsAre.len_eq S9z)) <;> k_steps) | ((k_here; (with_reducible show wpAny _ _ (subscriptTail _ _ (Value.ref _) (Value.int _ _)) _ _ _); k_dflt (refine item_last (by k_asm) (by k_mem) (by assumption) (by omega) ?_)) <;> k_steps) | ((k_here; (with_reducible show wpAny _ _ (binaryOp .Add (Value.ref _) (Value.ref _)) _ _ _); k_dflt (refine' add_ints ?k1 ?k2 ?k3 ?k4 ?k5 ?k6 ?k7 ?_; (case k1 => k_asm); (case k2 => k_asm); (case k3 => k_mem); (case k4 => k_mem); (case k5 => exact .cons _ _ .nil); (case k6 => assumption); (case k7 => (show 1 + (nums _).length ≤ _; simp only [nums, List.length_map]; omega))); (intro D9z h9z F9z N9z l9z I9z); (have q9z := allLt_of l9z); (dsimp only [AllLt] at q9z); (try dsimp only); (try k_fold)) <;> k_steps) | ((k_here; (with_reducible show wpAny _ _ (call (Value.type "tuple") [Value.ref _]) _ _ _); k_dflt (refine' tup_led ?k1 ?k2 ?k3 ?k4 ?_; (case k1 => k_asm); (case k2 => k_asm); (case k3 => k_mem); (case k4 => omega)); (intro D9z h9z F9z N9z); (try dsimp only); (try k_fold)) <;> k_steps) | ((k_here; (with_reducible show wpAny _ _ (call (Value.ref 85) [_, _]) _ _ _); k_dflt (refine' ell_k ?k1 ?k2 ?k3 ?k4 ?k5 ?kK ?kd ?ku ?hg ?hk1 ?hb ?hv ?_; (case k1 => k_asm); (case k2 => k_asm); (case k3 => k_asm); (case k4 => k_asm); (case k5 => k_asm); (case kK => first | exact rfl | assumption); (case kd => ktr_room); (case ku => ktr_units); (case hg => omega); (case hk1 => omega); (case hb => omega); (case hv => assumption)); (intro h9z tk9z F9z N9z); (try dsimp only); (try k_fold)) <;> k_steps) | ((k_here; (with_reducible show wpAny _ _ (call (Value.ref 116) [_, _]) _ _ _); k_dflt (refine' ind_c ?k1 ?k2 ?k3 ?k4 ?k5 ?kK ?kd ?ku ?ho ?hdx ?hnm ?hct ?hI ?hl ?h1 ?h2 ?_; (case k1 => k_asm); (case k2 => k_asm); (case k3 => k_asm); (case k4 => k_asm); (case k5 => k_asm); (case kK => first | exact rfl | assumption); (case kd => ktr_room); (case ku => ktr_units); (case ho => k_mem); (case hdx => k_mem); (case hnm => k_mem); (case hct => k_mem); (case hI => assumption); (case hl => assumption); (case h1 => omega); (case h2 => omega)); (intro t9z h9z tk9z F9z N9z); (try dsimp only); (try k_fold)) <;> k_steps) | ((k_here; (with_reducible show wpAny _ _ (call (Value.ref 147) [_]) _ _ _); k_dflt (refine' ws_g ?k1 ?k2 ?k3 ?k4 ?k5 ?kK ?kd ?ku ?hb ?hws ?_; (case k1 => k_asm); (case k2 => k_asm); (case k3 => k_asm); (case k4 => k_asm); (case k5 => k_asm); (case kK => first | exact rfl | assumption); (case kd => ktr_room); (case ku => ktr_units); (case hb => assumption); (case hws => assumption)); (intro h9z tk9z o9z dx9z nm9z ct9z cv9z k1 k2 k3 k4 k5 tn9z tt9z tb9z sb9z kk9z F9z N9z I9z); (try dsimp only); (try k_fold)) <;> k_steps)))
  refine ⟨_, _, _, _, _, (fun j y => ∃ p t, (Txt.split (tx bs) (Str.ofString "\t"))[j]? = some p ∧ y = .int (p.length : Int) t), rfl, by k_asm, by k_asm, by k_mem, by omega, asg_name (by rfl) (by rfl), ?turn1, ?fin1⟩
  case turn1 =>
    intro j v I oI C oC D ys m₂ h tk E' hv hC hA F9 N9 htk
    have hp := mem_part (by assumption) hr hr2 hv
    obtain ⟨p, u, ep, rfl, hpl⟩ := hp
    (k_steps <;> repeat' (first | ((k_here; (with_reducible show wpAny _ _ (call (Value.builtin "str.split") [Value.str _ _, Value.str _ _]) _ _ _); k_dflt (refine' split_is ?k1 ?k2 ?k3 rfl ?k5 ?_; (case k1 => k_asm); (case k2 => k_asm); (case k3 => rfl); (case k5 => (rw [tx_len]; omega))); (intro D9z vs9z h9z k9z S9z F9z N9z l9z); (have q9z := allLt_of l9z); (dsimp only [AllLt] at q9z); (have L9z := StrsAre.len_eq S9z)) <;> k_steps) | ((k_here; (with_reducible show wpAny _ _ (subscriptTail _ _ (Value.ref _) (Value.int _ _)) _ _ _); k_dflt (refine item_last (by k_asm) (by k_mem) (by assumption) (by omega) ?_)) <;> k_steps) | ((k_here; (with_reducible show wpAny _ _ (binaryOp .Add (Value.ref _) (Value.ref _)) _ _ _); k_dflt (refine' add_ints ?k1 ?k2 ?k3 ?k4 ?k5 ?k6 ?k7 ?_; (case k1 => k_asm); (case k2 => k_asm); (case k3 => k_mem); (case k4 => k_mem); (case k5 => exact .cons _ _ .nil); (case k6 => assumption); (case k7 => (show 1 + (nums _).length ≤ _; simp only [nums, List.length_map]; omega))); (intro D9z h9z F9z N9z l9z I9z); (have q9z := allLt_of l9z); (dsimp only [AllLt] at q9z); (try dsimp only); (try k_fold)) <;> k_steps) | ((k_here; (with_reducible show wpAny _ _ (call (Value.type "tuple") [Value.ref _]) _ _ _); k_dflt (refine' tup_led ?k1 ?k2 ?k3 ?k4 ?_; (case k1 => k_asm); (case k2 => k_asm); (case k3 => k_mem); (case k4 => omega)); (intro D9z h9z F9z N9z); (try dsimp only); (try k_fold)) <;> k_steps) | ((k_here; (with_reducible show wpAny _ _ (call (Value.ref 85) [_, _]) _ _ _); k_dflt (refine' ell_k ?k1 ?k2 ?k3 ?k4 ?k5 ?kK ?kd ?ku ?hg ?hk1 ?hb ?hv ?_; (case k1 => k_asm); (case k2 => k_asm); (case k3 => k_asm); (case k4 => k_asm); (case k5 => k_asm); (case kK => first | exact rfl | assumption); (case kd => ktr_room); (case ku => ktr_units); (case hg => omega); (case hk1 => omega); (case hb => omega); (case hv => assumption)); (intro h9z tk9z F9z N9z); (try dsimp only); (try k_fold)) <;> k_steps) | ((k_here; (with_reducible show wpAny _ _ (call (Value.ref 116) [_, _]) _ _ _); k_dflt (refine' ind_c ?k1 ?k2 ?k3 ?k4 ?k5 ?kK ?kd ?ku ?ho ?hdx ?hnm ?hct ?hI ?hl ?h1 ?h2 ?_; (case k1 => k_asm); (case k2 => k_asm); (case k3 => k_asm); (case k4 => k_asm); (case k5 => k_asm); (case kK => first | exact rfl | assumption); (case kd => ktr_room); (case ku => ktr_units); (case ho => k_mem); (case hdx => k_mem); (case hnm => k_mem); (case hct => k_mem); (case hI => assumption); (case hl => assumption); (case h1 => omega); (case h2 => omega)); (intro t9z h9z tk9z F9z N9z); (try dsimp only); (try k_fold)) <;> k_steps) | ((k_here; (with_reducible show wpAny _ _ (call (Value.ref 147) [_]) _ _ _); k_dflt (refine' ws_g ?k1 ?k2 ?k3 ?k4 ?k5 ?kK ?kd ?ku ?hb ?hws ?_; (case k1 => k_asm); (case k2 => k_asm); (case k3 => k_asm); (case k4 => k_asm); (case k5 => k_asm); (case kK => first | exact rfl | assumption); (case kd => ktr_room); (case ku => ktr_units); (case hb => assumption); (case hws => assumption)); (intro h9z tk9z o9z dx9z nm9z ct9z cv9z k1 k2 k3 k4 k5 tn9z tt9z tb9z sb9z kk9z F9z N9z I9z); (try dsimp only); (try k_fold)) <;> k_steps)))
    exact ⟨_, _, rfl, by k_asm, by k_asm, ⟨_, _, ep, rfl⟩⟩
  case fin1 =>
    intro ys got D h9 tk9 F9 N9 l9 htk9
    have q9 := allLt_of l9
    dsimp only [AllLt] at q9
    have I1 := got_lens (by assumption) got
    rw [hr] at I1
    have gl := got.1
    obtain ⟨tl, hlast⟩ := ints_last I1
    have IG := ints_but I1
    have hgt : (ys.take (ys.length - 1)).length = gp.length := by have := IntsAre.length IG; simpa [nums] using this
    (k_steps <;> repeat' (first | ((k_here; (with_reducible show wpAny _ _ (call (Value.builtin "str.split") [Value.str _ _, Value.str _ _]) _ _ _); k_dflt (refine' split_is ?k1 ?k2 ?k3 rfl ?k5 ?_; (case k1 => k_asm); (case k2 => k_asm); (case k3 => rfl); (case k5 => (rw [tx_len]; omega))); (intro D9z vs9z h9z k9z S9z F9z N9z l9z); (have q9z := allLt_of l9z); (dsimp only [AllLt] at q9z); (have L9z := StrsAre.len_eq S9z)) <;> k_steps) | ((k_here; (with_reducible show wpAny _ _ (subscriptTail _ _ (Value.ref _) (Value.int _ _)) _ _ _); k_dflt (refine item_last (by k_asm) (by k_mem) (by assumption) (by omega) ?_)) <;> k_steps) | ((k_here; (with_reducible show wpAny _ _ (binaryOp .Add (Value.ref _) (Value.ref _)) _ _ _); k_dflt (refine' add_ints ?k1 ?k2 ?k3 ?k4 ?k5 ?k6 ?k7 ?_; (case k1 => k_asm); (case k2 => k_asm); (case k3 => k_mem); (case k4 => k_mem); (case k5 => exact .cons _ _ .nil); (case k6 => assumption); (case k7 => (show 1 + (nums _).length ≤ _; simp only [nums, List.length_map]; omega))); (intro D9z h9z F9z N9z l9z I9z); (have q9z := allLt_of l9z); (dsimp only [AllLt] at q9z); (try dsimp only); (try k_fold)) <;> k_steps) | ((k_here; (with_reducible show wpAny _ _ (call (Value.type "tuple") [Value.ref _]) _ _ _); k_dflt (refine' tup_led ?k1 ?k2 ?k3 ?k4 ?_; (case k1 => k_asm); (case k2 => k_asm); (case k3 => k_mem); (case k4 => omega)); (intro D9z h9z F9z N9z); (try dsimp only); (try k_fold)) <;> k_steps) | ((k_here; (with_reducible show wpAny _ _ (call (Value.ref 85) [_, _]) _ _ _); k_dflt (refine' ell_k ?k1 ?k2 ?k3 ?k4 ?k5 ?kK ?kd ?ku ?hg ?hk1 ?hb ?hv ?_; (case k1 => k_asm); (case k2 => k_asm); (case k3 => k_asm); (case k4 => k_asm); (case k5 => k_asm); (case kK => first | exact rfl | assumption); (case kd => ktr_room); (case ku => ktr_units); (case hg => omega); (case hk1 => omega); (case hb => omega); (case hv => assumption)); (intro h9z tk9z F9z N9z); (try dsimp only); (try k_fold)) <;> k_steps) | ((k_here; (with_reducible show wpAny _ _ (call (Value.ref 116) [_, _]) _ _ _); k_dflt (refine' ind_c ?k1 ?k2 ?k3 ?k4 ?k5 ?kK ?kd ?ku ?ho ?hdx ?hnm ?hct ?hI ?hl ?h1 ?h2 ?_; (case k1 => k_asm); (case k2 => k_asm); (case k3 => k_asm); (case k4 => k_asm); (case k5 => k_asm); (case kK => first | exact rfl | assumption); (case kd => ktr_room); (case ku => ktr_units); (case ho => k_mem); (case hdx => k_mem); (case hnm => k_mem); (case hct => k_mem); (case hI => assumption); (case hl => assumption); (case h1 => omega); (case h2 => omega)); (intro t9z h9z tk9z F9z N9z); (try dsimp only); (try k_fold)) <;> k_steps) | ((k_here; (with_reducible show wpAny _ _ (call (Value.ref 147) [_]) _ _ _); k_dflt (refine' ws_g ?k1 ?k2 ?k3 ?k4 ?k5 ?kK ?kd ?ku ?hb ?hws ?_; (case k1 => k_asm); (case k2 => k_asm); (case k3 => k_asm); (case k4 => k_asm); (case k5 => k_asm); (case kK => first | exact rfl | assumption); (case kd => ktr_room); (case ku => ktr_units); (case hb => assumption); (case hws => assumption)); (intro h9z tk9z o9z dx9z nm9z ct9z cv9z k1 k2 k3 k4 k5 tn9z tt9z tb9z sb9z kk9z F9z N9z I9z); (try dsimp only); (try k_fold)) <;> k_steps)))
    rename _ ∈ [-1] ++ nums gp => hM1
    rename ∀ a ∈ [-1] ++ nums gp, a ≤ _ => hM2
    have hM := mx_is hM1 hM2
    subst hM
    rename IsRange _ _ _ _ _ _ _ _ => hR
    refine ⟨_, _, _, _, _, _, (mxI gp + 1).toNat, _, (fun j y => ∃ t, y = .int (Int.ofNat ((nums gp).count (Int.ofNat j))) t), rfl, by k_asm, by k_asm, hR, rng_small hmx, rng_size hmx, by omega, ?turn2, ?fin2⟩
    case turn2 =>
      rintro j v I oI C oC D2 ys2 m₂ h tk E' hj ⟨tv, rfl⟩ hC hA F9 N9
      (k_steps <;> repeat' (first | ((k_here; (with_reducible show wpAny _ _ (call (Value.builtin "str.split") [Value.str _ _, Value.str _ _]) _ _ _); k_dflt (refine' split_is ?k1 ?k2 ?k3 rfl ?k5 ?_; (case k1 => k_asm); (case k2 => k_asm); (case k3 => rfl); (case k5 => (rw [tx_len]; omega))); (intro D9z vs9z h9z k9z S9z F9z N9z l9z); (have q9z := allLt_of l9z); (dsimp only [AllLt] at q9z); (have L9z := StrsAre.len_eq S9z)) <;> k_steps) | ((k_here; (with_reducible show wpAny _ _ (subscriptTail _ _ (Value.ref _) (Value.int _ _)) _ _ _); k_dflt (refine item_last (by k_asm) (by k_mem) (by assumption) (by omega) ?_)) <;> k_steps) | ((k_here; (with_reducible show wpAny _ _ (binaryOp .Add (Value.ref _) (Value.ref _)) _ _ _); k_dflt (refine' add_ints ?k1 ?k2 ?k3 ?k4 ?k5 ?k6 ?k7 ?_; (case k1 => k_asm); (case k2 => k_asm); (case k3 => k_mem); (case k4 => k_mem); (case k5 => exact .cons _ _ .nil); (case k6 => assumption); (case k7 => (show 1 + (nums _).length ≤ _; simp only [nums, List.length_map]; omega))); (intro D9z h9z F9z N9z l9z I9z); (have q9z := allLt_of l9z); (dsimp only [AllLt] at q9z); (try dsimp only); (try k_fold)) <;> k_steps) | ((k_here; (with_reducible show wpAny _ _ (call (Value.type "tuple") [Value.ref _]) _ _ _); k_dflt (refine' tup_led ?k1 ?k2 ?k3 ?k4 ?_; (case k1 => k_asm); (case k2 => k_asm); (case k3 => k_mem); (case k4 => omega)); (intro D9z h9z F9z N9z); (try dsimp only); (try k_fold)) <;> k_steps) | ((k_here; (with_reducible show wpAny _ _ (call (Value.ref 85) [_, _]) _ _ _); k_dflt (refine' ell_k ?k1 ?k2 ?k3 ?k4 ?k5 ?kK ?kd ?ku ?hg ?hk1 ?hb ?hv ?_; (case k1 => k_asm); (case k2 => k_asm); (case k3 => k_asm); (case k4 => k_asm); (case k5 => k_asm); (case kK => first | exact rfl | assumption); (case kd => ktr_room); (case ku => ktr_units); (case hg => omega); (case hk1 => omega); (case hb => omega); (case hv => assumption)); (intro h9z tk9z F9z N9z); (try dsimp only); (try k_fold)) <;> k_steps) | ((k_here; (with_reducible show wpAny _ _ (call (Value.ref 116) [_, _]) _ _ _); k_dflt (refine' ind_c ?k1 ?k2 ?k3 ?k4 ?k5 ?kK ?kd ?ku ?ho ?hdx ?hnm ?hct ?hI ?hl ?h1 ?h2 ?_; (case k1 => k_asm); (case k2 => k_asm); (case k3 => k_asm); (case k4 => k_asm); (case k5 => k_asm); (case kK => first | exact rfl | assumption); (case kd => ktr_room); (case ku => ktr_units); (case ho => k_mem); (case hdx => k_mem); (case hnm => k_mem); (case hct => k_mem); (case hI => assumption); (case hl => assumption); (case h1 => omega); (case h2 => omega)); (intro t9z h9z tk9z F9z N9z); (try dsimp only); (try k_fold)) <;> k_steps) | ((k_here; (with_reducible show wpAny _ _ (call (Value.ref 147) [_]) _ _ _); k_dflt (refine' ws_g ?k1 ?k2 ?k3 ?k4 ?k5 ?kK ?kd ?ku ?hb ?hws ?_; (case k1 => k_asm); (case k2 => k_asm); (case k3 => k_asm); (case k4 => k_asm); (case k5 => k_asm); (case kK => first | exact rfl | assumption); (case kd => ktr_room); (case ku => ktr_units); (case hb => assumption); (case hws => assumption)); (intro h9z tk9z o9z dx9z nm9z ct9z cv9z k1 k2 k3 k4 k5 tn9z tt9z tb9z sb9z kk9z F9z N9z I9z); (try dsimp only); (try k_fold)) <;> k_steps)))
      exact ⟨_, _, rfl, by k_asm, by k_asm, ⟨_, congrArg (Value.int · _) (by rw [Int.zero_add]; rfl)⟩⟩
    case fin2 =>
      intro ys2 got2 D2 h9 tk9 F9 N9 l9
      have I2 := got_cts got2
      have gl2 := got2.1
      have q9 := allLt_of l9
      dsimp only [AllLt] at q9
      (k_steps <;> repeat' (first | ((k_here; (with_reducible show wpAny _ _ (call (Value.builtin "str.split") [Value.str _ _, Value.str _ _]) _ _ _); k_dflt (refine' split_is ?k1 ?k2 ?k3 rfl ?k5 ?_; (case k1 => k_asm); (case k2 => k_asm); (case k3 => rfl); (case k5 => (rw [tx_len]; omega))); (intro D9z vs9z h9z k9z S9z F9z N9z l9z); (have q9z := allLt_of l9z); (dsimp only [AllLt] at q9z); (have L9z := StrsAre.len_eq S9z)) <;> k_steps) | ((k_here; (with_reducible show wpAny _ _ (subscriptTail _ _ (Value.ref _) (Value.int _ _)) _ _ _); k_dflt (refine item_last (by k_asm) (by k_mem) (by assumption) (by omega) ?_)) <;> k_steps) | ((k_here; (with_reducible show wpAny _ _ (binaryOp .Add (Value.ref _) (Value.ref _)) _ _ _); k_dflt (refine' add_ints ?k1 ?k2 ?k3 ?k4 ?k5 ?k6 ?k7 ?_; (case k1 => k_asm); (case k2 => k_asm); (case k3 => k_mem); (case k4 => k_mem); (case k5 => exact .cons _ _ .nil); (case k6 => assumption); (case k7 => (show 1 + (nums _).length ≤ _; simp only [nums, List.length_map]; omega))); (intro D9z h9z F9z N9z l9z I9z); (have q9z := allLt_of l9z); (dsimp only [AllLt] at q9z); (try dsimp only); (try k_fold)) <;> k_steps) | ((k_here; (with_reducible show wpAny _ _ (call (Value.type "tuple") [Value.ref _]) _ _ _); k_dflt (refine' tup_led ?k1 ?k2 ?k3 ?k4 ?_; (case k1 => k_asm); (case k2 => k_asm); (case k3 => k_mem); (case k4 => omega)); (intro D9z h9z F9z N9z); (try dsimp only); (try k_fold)) <;> k_steps) | ((k_here; (with_reducible show wpAny _ _ (call (Value.ref 85) [_, _]) _ _ _); k_dflt (refine' ell_k ?k1 ?k2 ?k3 ?k4 ?k5 ?kK ?kd ?ku ?hg ?hk1 ?hb ?hv ?_; (case k1 => k_asm); (case k2 => k_asm); (case k3 => k_asm); (case k4 => k_asm); (case k5 => k_asm); (case kK => first | exact rfl | assumption); (case kd => ktr_room); (case ku => ktr_units); (case hg => omega); (case hk1 => omega); (case hb => omega); (case hv => assumption)); (intro h9z tk9z F9z N9z); (try dsimp only); (try k_fold)) <;> k_steps) | ((k_here; (with_reducible show wpAny _ _ (call (Value.ref 116) [_, _]) _ _ _); k_dflt (refine' ind_c ?k1 ?k2 ?k3 ?k4 ?k5 ?kK ?kd ?ku ?ho ?hdx ?hnm ?hct ?hI ?hl ?h1 ?h2 ?_; (case k1 => k_asm); (case k2 => k_asm); (case k3 => k_asm); (case k4 => k_asm); (case k5 => k_asm); (case kK => first | exact rfl | assumption); (case kd => ktr_room); (case ku => ktr_units); (case ho => k_mem); (case hdx => k_mem); (case hnm => k_mem); (case hct => k_mem); (case hI => assumption); (case hl => assumption); (case h1 => omega); (case h2 => omega)); (intro t9z h9z tk9z F9z N9z); (try dsimp only); (try k_fold)) <;> k_steps) | ((k_here; (with_reducible show wpAny _ _ (call (Value.ref 147) [_]) _ _ _); k_dflt (refine' ws_g ?k1 ?k2 ?k3 ?k4 ?k5 ?kK ?kd ?ku ?hb ?hws ?_; (case k1 => k_asm); (case k2 => k_asm); (case k3 => k_asm); (case k4 => k_asm); (case k5 => k_asm); (case kK => first | exact rfl | assumption); (case kd => ktr_room); (case ku => ktr_units); (case hb => assumption); (case hws => assumption)); (intro h9z tk9z o9z dx9z nm9z ct9z cv9z k1 k2 k3 k4 k5 tn9z tt9z tb9z sb9z kk9z F9z N9z I9z); (try dsimp only); (try k_fold)) <;> k_steps)))
      rename IsRange _ _ _ _ _ _ _ _ => hR2
      rename News _ _ _ _ => N9
      have N10 := Del.news (c := L' + 1 + 1) (o := o1) (Del.of 14 rfl) N9
      dsimp only [List.eraseIdx_cons_succ, List.eraseIdx_cons_zero] at N10
      refine for_cell rfl (by rfl) rfl rfl (by passes_own) (by k_asm) N10 hc1 ?off3 (n := bs.length + 1) hR2 (rg_small (by omega) (by omega) (by omega) (by omega)) (rg_size (by omega)) ?step3 ?fin3
      case off3 =>
        repeat (refine List.forall_mem_cons.mpr ⟨by first | (refine neN ?_; (try dsimp only); omega) | exact ne_cell N9 (by k_mem) (by k_mem) hc1 (by intro v h; cases h), ?_⟩)
        exact ap2
      case step3 =>
        intro i tv o I oI h tk hi ho F9 N9
        (k_steps <;> repeat' (first | ((k_here; (with_reducible show wpAny _ _ (call (Value.builtin "str.split") [Value.str _ _, Value.str _ _]) _ _ _); k_dflt (refine' split_is ?k1 ?k2 ?k3 rfl ?k5 ?_; (case k1 => k_asm); (case k2 => k_asm); (case k3 => rfl); (case k5 => (rw [tx_len]; omega))); (intro D9z vs9z h9z k9z S9z F9z N9z l9z); (have q9z := allLt_of l9z); (dsimp only [AllLt] at q9z); (have L9z := StrsAre.len_eq S9z)) <;> k_steps) | ((k_here; (with_reducible show wpAny _ _ (subscriptTail _ _ (Value.ref _) (Value.int _ _)) _ _ _); k_dflt (refine item_last (by k_asm) (by k_mem) (by assumption) (by omega) ?_)) <;> k_steps) | ((k_here; (with_reducible show wpAny _ _ (binaryOp .Add (Value.ref _) (Value.ref _)) _ _ _); k_dflt (refine' add_ints ?k1 ?k2 ?k3 ?k4 ?k5 ?k6 ?k7 ?_; (case k1 => k_asm); (case k2 => k_asm); (case k3 => k_mem); (case k4 => k_mem); (case k5 => exact .cons _ _ .nil); (case k6 => assumption); (case k7 => (show 1 + (nums _).length ≤ _; simp only [nums, List.length_map]; omega))); (intro D9z h9z F9z N9z l9z I9z); (have q9z := allLt_of l9z); (dsimp only [AllLt] at q9z); (try dsimp only); (try k_fold)) <;> k_steps) | ((k_here; (with_reducible show wpAny _ _ (call (Value.type "tuple") [Value.ref _]) _ _ _); k_dflt (refine' tup_led ?k1 ?k2 ?k3 ?k4 ?_; (case k1 => k_asm); (case k2 => k_asm); (case k3 => k_mem); (case k4 => omega)); (intro D9z h9z F9z N9z); (try dsimp only); (try k_fold)) <;> k_steps) | ((k_here; (with_reducible show wpAny _ _ (call (Value.ref 85) [_, _]) _ _ _); k_dflt (refine' ell_k ?k1 ?k2 ?k3 ?k4 ?k5 ?kK ?kd ?ku ?hg ?hk1 ?hb ?hv ?_; (case k1 => k_asm); (case k2 => k_asm); (case k3 => k_asm); (case k4 => k_asm); (case k5 => k_asm); (case kK => first | exact rfl | assumption); (case kd => ktr_room); (case ku => ktr_units); (case hg => omega); (case hk1 => omega); (case hb => omega); (case hv => assumption)); (intro h9z tk9z F9z N9z); (try dsimp only); (try k_fold)) <;> k_steps) | ((k_here; (with_reducible show wpAny _ _ (call (Value.ref 116) [_, _]) _ _ _); k_dflt (refine' ind_c ?k1 ?k2 ?k3 ?k4 ?k5 ?kK ?kd ?ku ?ho ?hdx ?hnm ?hct ?hI ?hl ?h1 ?h2 ?_; (case k1 => k_asm); (case k2 => k_asm); (case k3 => k_asm); (case k4 => k_asm); (case k5 => k_asm); (case kK => first | exact rfl | assumption); (case kd => ktr_room); (case ku => ktr_units); (case ho => k_mem); (case hdx => k_mem); (case hnm => k_mem); (case hct => k_mem); (case hI => assumption); (case hl => assumption); (case h1 => omega); (case h2 => omega)); (intro t9z h9z tk9z F9z N9z); (try dsimp only); (try k_fold)) <;> k_steps) | ((k_here; (with_reducible show wpAny _ _ (call (Value.ref 147) [_]) _ _ _); k_dflt (refine' ws_g ?k1 ?k2 ?k3 ?k4 ?k5 ?kK ?kd ?ku ?hb ?hws ?_; (case k1 => k_asm); (case k2 => k_asm); (case k3 => k_asm); (case k4 => k_asm); (case k5 => k_asm); (case kK => first | exact rfl | assumption); (case kd => ktr_room); (case ku => ktr_units); (case hb => assumption); (case hws => assumption)); (intro h9z tk9z o9z dx9z nm9z ct9z cv9z k1 k2 k3 k4 k5 tn9z tt9z tb9z sb9z kk9z F9z N9z I9z); (try dsimp only); (try k_fold)) <;> k_steps)))
        refine ⟨_, _, _, _, _, (fun j y => ∃ (g : Nat) (t : Tok), gp[j]? = some g ∧ y = .int ((g : Int) + (1 + (i : Int)) - (g : Int).fmod (1 + (i : Int))) t), rfl, by k_asm, by k_asm, by k_mem, by omega, asg_name (by rfl) (by rfl), ?turn4, ?fin4⟩
        case turn4 =>
          intro j v I2 oI2 C oC D4 ys4 m₂ h tk E' hv hC hA F9 N9 htk
          obtain ⟨g, tg, hg, rfl⟩ := ints_item IG hv
          (k_steps <;> repeat' (first | ((k_here; (with_reducible show wpAny _ _ (call (Value.builtin "str.split") [Value.str _ _, Value.str _ _]) _ _ _); k_dflt (refine' split_is ?k1 ?k2 ?k3 rfl ?k5 ?_; (case k1 => k_asm); (case k2 => k_asm); (case k3 => rfl); (case k5 => (rw [tx_len]; omega))); (intro D9z vs9z h9z k9z S9z F9z N9z l9z); (have q9z := allLt_of l9z); (dsimp only [AllLt] at q9z); (have L9z := StrsAre.len_eq S9z)) <;> k_steps) | ((k_here; (with_reducible show wpAny _ _ (subscriptTail _ _ (Value.ref _) (Value.int _ _)) _ _ _); k_dflt (refine item_last (by k_asm) (by k_mem) (by assumption) (by omega) ?_)) <;> k_steps) | ((k_here; (with_reducible show wpAny _ _ (binaryOp .Add (Value.ref _) (Value.ref _)) _ _ _); k_dflt (refine' add_ints ?k1 ?k2 ?k3 ?k4 ?k5 ?k6 ?k7 ?_; (case k1 => k_asm); (case k2 => k_asm); (case k3 => k_mem); (case k4 => k_mem); (case k5 => exact .cons _ _ .nil); (case k6 => assumption); (case k7 => (show 1 + (nums _).length ≤ _; simp only [nums, List.length_map]; omega))); (intro D9z h9z F9z N9z l9z I9z); (have q9z := allLt_of l9z); (dsimp only [AllLt] at q9z); (try dsimp only); (try k_fold)) <;> k_steps) | ((k_here; (with_reducible show wpAny _ _ (call (Value.type "tuple") [Value.ref _]) _ _ _); k_dflt (refine' tup_led ?k1 ?k2 ?k3 ?k4 ?_; (case k1 => k_asm); (case k2 => k_asm); (case k3 => k_mem); (case k4 => omega)); (intro D9z h9z F9z N9z); (try dsimp only); (try k_fold)) <;> k_steps) | ((k_here; (with_reducible show wpAny _ _ (call (Value.ref 85) [_, _]) _ _ _); k_dflt (refine' ell_k ?k1 ?k2 ?k3 ?k4 ?k5 ?kK ?kd ?ku ?hg ?hk1 ?hb ?hv ?_; (case k1 => k_asm); (case k2 => k_asm); (case k3 => k_asm); (case k4 => k_asm); (case k5 => k_asm); (case kK => first | exact rfl | assumption); (case kd => ktr_room); (case ku => ktr_units); (case hg => omega); (case hk1 => omega); (case hb => omega); (case hv => assumption)); (intro h9z tk9z F9z N9z); (try dsimp only); (try k_fold)) <;> k_steps) | ((k_here; (with_reducible show wpAny _ _ (call (Value.ref 116) [_, _]) _ _ _); k_dflt (refine' ind_c ?k1 ?k2 ?k3 ?k4 ?k5 ?kK ?kd ?ku ?ho ?hdx ?hnm ?hct ?hI ?hl ?h1 ?h2 ?_; (case k1 => k_asm); (case k2 => k_asm); (case k3 => k_asm); (case k4 => k_asm); (case k5 => k_asm); (case kK => first | exact rfl | assumption); (case kd => ktr_room); (case ku => ktr_units); (case ho => k_mem); (case hdx => k_mem); (case hnm => k_mem); (case hct => k_mem); (case hI => assumption); (case hl => assumption); (case h1 => omega); (case h2 => omega)); (intro t9z h9z tk9z F9z N9z); (try dsimp only); (try k_fold)) <;> k_steps) | ((k_here; (with_reducible show wpAny _ _ (call (Value.ref 147) [_]) _ _ _); k_dflt (refine' ws_g ?k1 ?k2 ?k3 ?k4 ?k5 ?kK ?kd ?ku ?hb ?hws ?_; (case k1 => k_asm); (case k2 => k_asm); (case k3 => k_asm); (case k4 => k_asm); (case k5 => k_asm); (case kK => first | exact rfl | assumption); (case kd => ktr_room); (case ku => ktr_units); (case hb => assumption); (case hws => assumption)); (intro h9z tk9z o9z dx9z nm9z ct9z cv9z k1 k2 k3 k4 k5 tn9z tt9z tb9z sb9z kk9z F9z N9z I9z); (try dsimp only); (try k_fold)) <;> k_steps)))
          exact ⟨_, _, rfl, by k_asm, by k_asm, ⟨g, _, hg, rfl⟩⟩
        case fin4 =>
          intro ys4 got4 D4 h9 tk9 F9 N9 l9 htk9
          have I4 := got_gs (f := fun g => g + (1 + (i : Int)) - g.fmod (1 + (i : Int))) IG got4
          have heq := hind i hi
          (k_steps <;> repeat' (first | ((k_here; (with_reducible show wpAny _ _ (call (Value.builtin "str.split") [Value.str _ _, Value.str _ _]) _ _ _); k_dflt (refine' split_is ?k1 ?k2 ?k3 rfl ?k5 ?_; (case k1 => k_asm); (case k2 => k_asm); (case k3 => rfl); (case k5 => (rw [tx_len]; omega))); (intro D9z vs9z h9z k9z S9z F9z N9z l9z); (have q9z := allLt_of l9z); (dsimp only [AllLt] at q9z); (have L9z := StrsAre.len_eq S9z)) <;> k_steps) | ((k_here; (with_reducible show wpAny _ _ (subscriptTail _ _ (Value.ref _) (Value.int _ _)) _ _ _); k_dflt (refine item_last (by k_asm) (by k_mem) (by assumption) (by omega) ?_)) <;> k_steps) | ((k_here; (with_reducible show wpAny _ _ (binaryOp .Add (Value.ref _) (Value.ref _)) _ _ _); k_dflt (refine' add_ints ?k1 ?k2 ?k3 ?k4 ?k5 ?k6 ?k7 ?_; (case k1 => k_asm); (case k2 => k_asm); (case k3 => k_mem); (case k4 => k_mem); (case k5 => exact .cons _ _ .nil); (case k6 => assumption); (case k7 => (show 1 + (nums _).length ≤ _; simp only [nums, List.length_map]; omega))); (intro D9z h9z F9z N9z l9z I9z); (have q9z := allLt_of l9z); (dsimp only [AllLt] at q9z); (try dsimp only); (try k_fold)) <;> k_steps) | ((k_here; (with_reducible show wpAny _ _ (call (Value.type "tuple") [Value.ref _]) _ _ _); k_dflt (refine' tup_led ?k1 ?k2 ?k3 ?k4 ?_; (case k1 => k_asm); (case k2 => k_asm); (case k3 => k_mem); (case k4 => omega)); (intro D9z h9z F9z N9z); (try dsimp only); (try k_fold)) <;> k_steps) | ((k_here; (with_reducible show wpAny _ _ (call (Value.ref 85) [_, _]) _ _ _); k_dflt (refine' ell_k ?k1 ?k2 ?k3 ?k4 ?k5 ?kK ?kd ?ku ?hg ?hk1 ?hb ?hv ?_; (case k1 => k_asm); (case k2 => k_asm); (case k3 => k_asm); (case k4 => k_asm); (case k5 => k_asm); (case kK => first | exact rfl | assumption); (case kd => ktr_room); (case ku => ktr_units); (case hg => omega); (case hk1 => omega); (case hb => omega); (case hv => assumption)); (intro h9z tk9z F9z N9z); (try dsimp only); (try k_fold)) <;> k_steps) | ((k_here; (with_reducible show wpAny _ _ (call (Value.ref 116) [_, _]) _ _ _); k_dflt (refine' ind_c ?k1 ?k2 ?k3 ?k4 ?k5 ?kK ?kd ?ku ?ho ?hdx ?hnm ?hct ?hI ?hl ?h1 ?h2 ?_; (case k1 => k_asm); (case k2 => k_asm); (case k3 => k_asm); (case k4 => k_asm); (case k5 => k_asm); (case kK => first | exact rfl | assumption); (case kd => ktr_room); (case ku => ktr_units); (case ho => k_mem); (case hdx => k_mem); (case hnm => k_mem); (case hct => k_mem); (case hI => assumption); (case hl => assumption); (case h1 => omega); (case h2 => omega)); (intro t9z h9z tk9z F9z N9z); (try dsimp only); (try k_fold)) <;> k_steps) | ((k_here; (with_reducible show wpAny _ _ (call (Value.ref 147) [_]) _ _ _); k_dflt (refine' ws_g ?k1 ?k2 ?k3 ?k4 ?k5 ?kK ?kd ?ku ?hb ?hws ?_; (case k1 => k_asm); (case k2 => k_asm); (case k3 => k_asm); (case k4 => k_asm); (case k5 => k_asm); (case kK => first | exact rfl | assumption); (case kd => ktr_room); (case ku => ktr_units); (case hb => assumption); (case hws => assumption)); (intro h9z tk9z o9z dx9z nm9z ct9z cv9z k1 k2 k3 k4 k5 tn9z tt9z tb9z sb9z kk9z F9z N9z I9z); (try dsimp only); (try k_fold)) <;> k_steps)))
          all_goals exact ⟨rfl, _, _, rfl, by k_asm, cb_drop (by k_asm) (fun p hp => List.mem_cons_of_mem _ hp)⟩
      case fin3 =>
        intro h tk o v ho F9 N9
        (k_steps <;> repeat' (first | ((k_here; (with_reducible show wpAny _ _ (call (Value.builtin "str.split") [Value.str _ _, Value.str _ _]) _ _ _); k_dflt (refine' split_is ?k1 ?k2 ?k3 rfl ?k5 ?_; (case k1 => k_asm); (case k2 => k_asm); (case k3 => rfl); (case k5 => (rw [tx_len]; omega))); (intro D9z vs9z h9z k9z S9z F9z N9z l9z); (have q9z := allLt_of l9z); (dsimp only [AllLt] at q9z); (have L9z := StrsAre.len_eq S9z)) <;> k_steps) | ((k_here; (with_reducible show wpAny _ _ (subscriptTail _ _ (Value.ref _) (Value.int _ _)) _ _ _); k_dflt (refine item_last (by k_asm) (by k_mem) (by assumption) (by omega) ?_)) <;> k_steps) | ((k_here; (with_reducible show wpAny _ _ (binaryOp .Add (Value.ref _) (Value.ref _)) _ _ _); k_dflt (refine' add_ints ?k1 ?k2 ?k3 ?k4 ?k5 ?k6 ?k7 ?_; (case k1 => k_asm); (case k2 => k_asm); (case k3 => k_mem); (case k4 => k_mem); (case k5 => exact .cons _ _ .nil); (case k6 => assumption); (case k7 => (show 1 + (nums _).length ≤ _; simp only [nums, List.length_map]; omega))); (intro D9z h9z F9z N9z l9z I9z); (have q9z := allLt_of l9z); (dsimp only [AllLt] at q9z); (try dsimp only); (try k_fold)) <;> k_steps) | ((k_here; (with_reducible show wpAny _ _ (call (Value.type "tuple") [Value.ref _]) _ _ _); k_dflt (refine' tup_led ?k1 ?k2 ?k3 ?k4 ?_; (case k1 => k_asm); (case k2 => k_asm); (case k3 => k_mem); (case k4 => omega)); (intro D9z h9z F9z N9z); (try dsimp only); (try k_fold)) <;> k_steps) | ((k_here; (with_reducible show wpAny _ _ (call (Value.ref 85) [_, _]) _ _ _); k_dflt (refine' ell_k ?k1 ?k2 ?k3 ?k4 ?k5 ?kK ?kd ?ku ?hg ?hk1 ?hb ?hv ?_; (case k1 => k_asm); (case k2 => k_asm); (case k3 => k_asm); (case k4 => k_asm); (case k5 => k_asm); (case kK => first | exact rfl | assumption); (case kd => ktr_room); (case ku => ktr_units); (case hg => omega); (case hk1 => omega); (case hb => omega); (case hv => assumption)); (intro h9z tk9z F9z N9z); (try dsimp only); (try k_fold)) <;> k_steps) | ((k_here; (with_reducible show wpAny _ _ (call (Value.ref 116) [_, _]) _ _ _); k_dflt (refine' ind_c ?k1 ?k2 ?k3 ?k4 ?k5 ?kK ?kd ?ku ?ho ?hdx ?hnm ?hct ?hI ?hl ?h1 ?h2 ?_; (case k1 => k_asm); (case k2 => k_asm); (case k3 => k_asm); (case k4 => k_asm); (case k5 => k_asm); (case kK => first | exact rfl | assumption); (case kd => ktr_room); (case ku => ktr_units); (case ho => k_mem); (case hdx => k_mem); (case hnm => k_mem); (case hct => k_mem); (case hI => assumption); (case hl => assumption); (case h1 => omega); (case h2 => omega)); (intro t9z h9z tk9z F9z N9z); (try dsimp only); (try k_fold)) <;> k_steps) | ((k_here; (with_reducible show wpAny _ _ (call (Value.ref 147) [_]) _ _ _); k_dflt (refine' ws_g ?k1 ?k2 ?k3 ?k4 ?k5 ?kK ?kd ?ku ?hb ?hws ?_; (case k1 => k_asm); (case k2 => k_asm); (case k3 => k_asm); (case k4 => k_asm); (case k5 => k_asm); (case kK => first | exact rfl | assumption); (case kd => ktr_room); (case ku => ktr_units); (case hb => assumption); (case hws => assumption)); (intro h9z tk9z o9z dx9z nm9z ct9z cv9z k1 k2 k3 k4 k5 tn9z tt9z tb9z sb9z kk9z F9z N9z I9z); (try dsimp only); (try k_fold)) <;> k_steps)))
        refine ⟨_, _, _, _, _, (fun j y => ∃ p t, (Txt.split (tx bs) (Str.ofString " "))[j]? = some p ∧ y = .int (p.length : Int) t), rfl, by k_asm, by k_asm, by k_mem, by omega, asg_name (by rfl) (by rfl), ?turn5, ?fin5⟩
        case turn5 =>
          intro j v I oI C oC D5 ys5 m₂ h tk E' hv hC hA F9 N9 htk
          have hp := mem_part (by assumption) hs hs2 hv
          obtain ⟨p, u, ep, rfl, hpl⟩ := hp
          (k_steps <;> repeat' (first | ((k_here; (with_reducible show wpAny _ _ (call (Value.builtin "str.split") [Value.str _ _, Value.str _ _]) _ _ _); k_dflt (refine' split_is ?k1 ?k2 ?k3 rfl ?k5 ?_; (case k1 => k_asm); (case k2 => k_asm); (case k3 => rfl); (case k5 => (rw [tx_len]; omega))); (intro D9z vs9z h9z k9z S9z F9z N9z l9z); (have q9z := allLt_of l9z); (dsimp only [AllLt] at q9z); (have L9z := StrsAre.len_eq S9z)) <;> k_steps) | ((k_here; (with_reducible show wpAny _ _ (subscriptTail _ _ (Value.ref _) (Value.int _ _)) _ _ _); k_dflt (refine item_last (by k_asm) (by k_mem) (by assumption) (by omega) ?_)) <;> k_steps) | ((k_here; (with_reducible show wpAny _ _ (binaryOp .Add (Value.ref _) (Value.ref _)) _ _ _); k_dflt (refine' add_ints ?k1 ?k2 ?k3 ?k4 ?k5 ?k6 ?k7 ?_; (case k1 => k_asm); (case k2 => k_asm); (case k3 => k_mem); (case k4 => k_mem); (case k5 => exact .cons _ _ .nil); (case k6 => assumption); (case k7 => (show 1 + (nums _).length ≤ _; simp only [nums, List.length_map]; omega))); (intro D9z h9z F9z N9z l9z I9z); (have q9z := allLt_of l9z); (dsimp only [AllLt] at q9z); (try dsimp only); (try k_fold)) <;> k_steps) | ((k_here; (with_reducible show wpAny _ _ (call (Value.type "tuple") [Value.ref _]) _ _ _); k_dflt (refine' tup_led ?k1 ?k2 ?k3 ?k4 ?_; (case k1 => k_asm); (case k2 => k_asm); (case k3 => k_mem); (case k4 => omega)); (intro D9z h9z F9z N9z); (try dsimp only); (try k_fold)) <;> k_steps) | ((k_here; (with_reducible show wpAny _ _ (call (Value.ref 85) [_, _]) _ _ _); k_dflt (refine' ell_k ?k1 ?k2 ?k3 ?k4 ?k5 ?kK ?kd ?ku ?hg ?hk1 ?hb ?hv ?_; (case k1 => k_asm); (case k2 => k_asm); (case k3 => k_asm); (case k4 => k_asm); (case k5 => k_asm); (case kK => first | exact rfl | assumption); (case kd => ktr_room); (case ku => ktr_units); (case hg => omega); (case hk1 => omega); (case hb => omega); (case hv => assumption)); (intro h9z tk9z F9z N9z); (try dsimp only); (try k_fold)) <;> k_steps) | ((k_here; (with_reducible show wpAny _ _ (call (Value.ref 116) [_, _]) _ _ _); k_dflt (refine' ind_c ?k1 ?k2 ?k3 ?k4 ?k5 ?kK ?kd ?ku ?ho ?hdx ?hnm ?hct ?hI ?hl ?h1 ?h2 ?_; (case k1 => k_asm); (case k2 => k_asm); (case k3 => k_asm); (case k4 => k_asm); (case k5 => k_asm); (case kK => first | exact rfl | assumption); (case kd => ktr_room); (case ku => ktr_units); (case ho => k_mem); (case hdx => k_mem); (case hnm => k_mem); (case hct => k_mem); (case hI => assumption); (case hl => assumption); (case h1 => omega); (case h2 => omega)); (intro t9z h9z tk9z F9z N9z); (try dsimp only); (try k_fold)) <;> k_steps) | ((k_here; (with_reducible show wpAny _ _ (call (Value.ref 147) [_]) _ _ _); k_dflt (refine' ws_g ?k1 ?k2 ?k3 ?k4 ?k5 ?kK ?kd ?ku ?hb ?hws ?_; (case k1 => k_asm); (case k2 => k_asm); (case k3 => k_asm); (case k4 => k_asm); (case k5 => k_asm); (case kK => first | exact rfl | assumption); (case kd => ktr_room); (case ku => ktr_units); (case hb => assumption); (case hws => assumption)); (intro h9z tk9z o9z dx9z nm9z ct9z cv9z k1 k2 k3 k4 k5 tn9z tt9z tb9z sb9z kk9z F9z N9z I9z); (try dsimp only); (try k_fold)) <;> k_steps)))
          exact ⟨_, _, rfl, by k_asm, by k_asm, ⟨_, _, ep, rfl⟩⟩
        case fin5 =>
          intro ys5 got5 D5 h9 tk9 F9 N9 l9 htk9
          have q9 := allLt_of l9
          dsimp only [AllLt] at q9
          have I5 := got_lens (by assumption) got5
          rw [hs] at I5
          have gl5 := got5.1
          (k_steps <;> repeat' (first | ((k_here; (with_reducible show wpAny _ _ (call (Value.builtin "str.split") [Value.str _ _, Value.str _ _]) _ _ _); k_dflt (refine' split_is ?k1 ?k2 ?k3 rfl ?k5 ?_; (case k1 => k_asm); (case k2 => k_asm); (case k3 => rfl); (case k5 => (rw [tx_len]; omega))); (intro D9z vs9z h9z k9z S9z F9z N9z l9z); (have q9z := allLt_of l9z); (dsimp only [AllLt] at q9z); (have L9z := StrsAre.len_eq S9z)) <;> k_steps) | ((k_here; (with_reducible show wpAny _ _ (subscriptTail _ _ (Value.ref _) (Value.int _ _)) _ _ _); k_dflt (refine item_last (by k_asm) (by k_mem) (by assumption) (by omega) ?_)) <;> k_steps) | ((k_here; (with_reducible show wpAny _ _ (binaryOp .Add (Value.ref _) (Value.ref _)) _ _ _); k_dflt (refine' add_ints ?k1 ?k2 ?k3 ?k4 ?k5 ?k6 ?k7 ?_; (case k1 => k_asm); (case k2 => k_asm); (case k3 => k_mem); (case k4 => k_mem); (case k5 => exact .cons _ _ .nil); (case k6 => assumption); (case k7 => (show 1 + (nums _).length ≤ _; simp only [nums, List.length_map]; omega))); (intro D9z h9z F9z N9z l9z I9z); (have q9z := allLt_of l9z); (dsimp only [AllLt] at q9z); (try dsimp only); (try k_fold)) <;> k_steps) | ((k_here; (with_reducible show wpAny _ _ (call (Value.type "tuple") [Value.ref _]) _ _ _); k_dflt (refine' tup_led ?k1 ?k2 ?k3 ?k4 ?_; (case k1 => k_asm); (case k2 => k_asm); (case k3 => k_mem); (case k4 => omega)); (intro D9z h9z F9z N9z); (try dsimp only); (try k_fold)) <;> k_steps) | ((k_here; (with_reducible show wpAny _ _ (call (Value.ref 85) [_, _]) _ _ _); k_dflt (refine' ell_k ?k1 ?k2 ?k3 ?k4 ?k5 ?kK ?kd ?ku ?hg ?hk1 ?hb ?hv ?_; (case k1 => k_asm); (case k2 => k_asm); (case k3 => k_asm); (case k4 => k_asm); (case k5 => k_asm); (case kK => first | exact rfl | assumption); (case kd => ktr_room); (case ku => ktr_units); (case hg => omega); (case hk1 => omega); (case hb => omega); (case hv => assumption)); (intro h9z tk9z F9z N9z); (try dsimp only); (try k_fold)) <;> k_steps) | ((k_here; (with_reducible show wpAny _ _ (call (Value.ref 116) [_, _]) _ _ _); k_dflt (refine' ind_c ?k1 ?k2 ?k3 ?k4 ?k5 ?kK ?kd ?ku ?ho ?hdx ?hnm ?hct ?hI ?hl ?h1 ?h2 ?_; (case k1 => k_asm); (case k2 => k_asm); (case k3 => k_asm); (case k4 => k_asm); (case k5 => k_asm); (case kK => first | exact rfl | assumption); (case kd => ktr_room); (case ku => ktr_units); (case ho => k_mem); (case hdx => k_mem); (case hnm => k_mem); (case hct => k_mem); (case hI => assumption); (case hl => assumption); (case h1 => omega); (case h2 => omega)); (intro t9z h9z tk9z F9z N9z); (try dsimp only); (try k_fold)) <;> k_steps) | ((k_here; (with_reducible show wpAny _ _ (call (Value.ref 147) [_]) _ _ _); k_dflt (refine' ws_g ?k1 ?k2 ?k3 ?k4 ?k5 ?kK ?kd ?ku ?hb ?hws ?_; (case k1 => k_asm); (case k2 => k_asm); (case k3 => k_asm); (case k4 => k_asm); (case k5 => k_asm); (case kK => first | exact rfl | assumption); (case kd => ktr_room); (case ku => ktr_units); (case hb => assumption); (case hws => assumption)); (intro h9z tk9z o9z dx9z nm9z ct9z cv9z k1 k2 k3 k4 k5 tn9z tt9z tb9z sb9z kk9z F9z N9z I9z); (try dsimp only); (try k_fold)) <;> k_steps)))
          rename IsRange _ _ _ _ _ _ _ _ => hR5
          refine for_range (by rfl) (by rfl) rfl (by passes_own) (JS (fun _ : Unit => []) _ (fun _ _ => True) [Str.ofString "k", Str.ofString "ahead", Str.ofString "behind"] _) (by k_asm) (by k_asm) (js0 (Led := fun _ => _) () trivial (by kst_all)) (n := st.length) hR5 (rg_small (by omega) (by omega) (by simp only [nums, List.length_map]; omega) (by simp only [nums, List.length_map]; omega)) (rg_size (by simp only [nums, List.length_map]; omega)) (step_S ?hx ?turn6) (fin_S ?fin6)
          case hx => (intro c p hp; cases hp)
          case turn6 =>
            rintro i v ⟨⟩ u It oI hp tk hi ⟨tv, rfl⟩ _ off F9 N9
            have hi5 : 0 + (i : Int) = (i : Int) := Int.zero_add _
            rename IntsAre ys5 (nums st) => I5
            have I6 := ints_drop I5 i
            obtain ⟨hE1, hE2⟩ := hell i hi
            have hsum : ((nums st).drop i).sum = (((st.drop i).sum : Nat) : Int) := nums_sum st i
            have hsum1 : ((nums st).drop i).sum + 1 = (((st.drop i).sum + 1 : Nat) : Int) := by rw [hsum]; rfl
            have hsb := hsum_b i
            (k_steps <;> repeat' (first | ((k_here; (with_reducible show wpAny _ _ (call (Value.builtin "str.split") [Value.str _ _, Value.str _ _]) _ _ _); k_dflt (refine' split_is ?k1 ?k2 ?k3 rfl ?k5 ?_; (case k1 => k_asm); (case k2 => k_asm); (case k3 => rfl); (case k5 => (rw [tx_len]; omega))); (intro D9z vs9z h9z k9z S9z F9z N9z l9z); (have q9z := allLt_of l9z); (dsimp only [AllLt] at q9z); (have L9z := StrsAre.len_eq S9z)) <;> k_steps) | ((k_here; (with_reducible show wpAny _ _ (subscriptTail _ _ (Value.ref _) (Value.int _ _)) _ _ _); k_dflt (refine item_last (by k_asm) (by k_mem) (by assumption) (by omega) ?_)) <;> k_steps) | ((k_here; (with_reducible show wpAny _ _ (binaryOp .Add (Value.ref _) (Value.ref _)) _ _ _); k_dflt (refine' add_ints ?k1 ?k2 ?k3 ?k4 ?k5 ?k6 ?k7 ?_; (case k1 => k_asm); (case k2 => k_asm); (case k3 => k_mem); (case k4 => k_mem); (case k5 => exact .cons _ _ .nil); (case k6 => assumption); (case k7 => (show 1 + (nums _).length ≤ _; simp only [nums, List.length_map]; omega))); (intro D9z h9z F9z N9z l9z I9z); (have q9z := allLt_of l9z); (dsimp only [AllLt] at q9z); (try dsimp only); (try k_fold)) <;> k_steps) | ((k_here; (with_reducible show wpAny _ _ (call (Value.type "tuple") [Value.ref _]) _ _ _); k_dflt (refine' tup_led ?k1 ?k2 ?k3 ?k4 ?_; (case k1 => k_asm); (case k2 => k_asm); (case k3 => k_mem); (case k4 => omega)); (intro D9z h9z F9z N9z); (try dsimp only); (try k_fold)) <;> k_steps) | ((k_here; (with_reducible show wpAny _ _ (call (Value.ref 85) [_, _]) _ _ _); k_dflt (refine' ell_k ?k1 ?k2 ?k3 ?k4 ?k5 ?kK ?kd ?ku ?hg ?hk1 ?hb ?hv ?_; (case k1 => k_asm); (case k2 => k_asm); (case k3 => k_asm); (case k4 => k_asm); (case k5 => k_asm); (case kK => first | exact rfl | assumption); (case kd => ktr_room); (case ku => ktr_units); (case hg => omega); (case hk1 => omega); (case hb => omega); (case hv => assumption)); (intro h9z tk9z F9z N9z); (try dsimp only); (try k_fold)) <;> k_steps) | ((k_here; (with_reducible show wpAny _ _ (call (Value.ref 116) [_, _]) _ _ _); k_dflt (refine' ind_c ?k1 ?k2 ?k3 ?k4 ?k5 ?kK ?kd ?ku ?ho ?hdx ?hnm ?hct ?hI ?hl ?h1 ?h2 ?_; (case k1 => k_asm); (case k2 => k_asm); (case k3 => k_asm); (case k4 => k_asm); (case k5 => k_asm); (case kK => first | exact rfl | assumption); (case kd => ktr_room); (case ku => ktr_units); (case ho => k_mem); (case hdx => k_mem); (case hnm => k_mem); (case hct => k_mem); (case hI => assumption); (case hl => assumption); (case h1 => omega); (case h2 => omega)); (intro t9z h9z tk9z F9z N9z); (try dsimp only); (try k_fold)) <;> k_steps) | ((k_here; (with_reducible show wpAny _ _ (call (Value.ref 147) [_]) _ _ _); k_dflt (refine' ws_g ?k1 ?k2 ?k3 ?k4 ?k5 ?kK ?kd ?ku ?hb ?hws ?_; (case k1 => k_asm); (case k2 => k_asm); (case k3 => k_asm); (case k4 => k_asm); (case k5 => k_asm); (case kK => first | exact rfl | assumption); (case kd => ktr_room); (case ku => ktr_units); (case hb => assumption); (case hws => assumption)); (intro h9z tk9z o9z dx9z nm9z ct9z cv9z k1 k2 k3 k4 k5 tn9z tt9z tb9z sb9z kk9z F9z N9z I9z); (try dsimp only); (try k_fold)) <;> k_steps)))
            all_goals exact ⟨(), _, _, _, rfl, by k_asm, by first | k_asm | exact cb_drop (by k_asm) (fun p hp => List.mem_cons_of_mem _ hp) | exact cb_drop (by k_asm) (fun p hp => List.mem_cons_of_mem _ (List.mem_cons_of_mem _ hp)) | exact cb_drop (by k_asm) (fun p hp => List.mem_cons_of_mem _ (List.mem_cons_of_mem _ (List.mem_cons_of_mem _ hp))), off, trivial, (fun p hp => by cases hp), by (intro z h2 h3; (have h3' := h3); (simp only [List.forall_mem_cons, List.not_mem_nil, false_implies, implies_true, and_true, ne_eq] at h2); (simp only [List.contains_cons, List.contains_nil, Bool.or_false, Bool.or_eq_false_iff, beq_eq_false_iff_ne, ne_eq] at h3); simp only [mapS, kstB, h2, h3, h3', if_false, Bool.false_eq_true])⟩
          case fin6 =>
            rintro ⟨⟩ u hp tk _ F9 N9
            (k_steps <;> repeat' (first | ((k_here; (with_reducible show wpAny _ _ (call (Value.builtin "str.split") [Value.str _ _, Value.str _ _]) _ _ _); k_dflt (refine' split_is ?k1 ?k2 ?k3 rfl ?k5 ?_; (case k1 => k_asm); (case k2 => k_asm); (case k3 => rfl); (case k5 => (rw [tx_len]; omega))); (intro D9z vs9z h9z k9z S9z F9z N9z l9z); (have q9z := allLt_of l9z); (dsimp only [AllLt] at q9z); (have L9z := StrsAre.len_eq S9z)) <;> k_steps) | ((k_here; (with_reducible show wpAny _ _ (subscriptTail _ _ (Value.ref _) (Value.int _ _)) _ _ _); k_dflt (refine item_last (by k_asm) (by k_mem) (by assumption) (by omega) ?_)) <;> k_steps) | ((k_here; (with_reducible show wpAny _ _ (binaryOp .Add (Value.ref _) (Value.ref _)) _ _ _); k_dflt (refine' add_ints ?k1 ?k2 ?k3 ?k4 ?k5 ?k6 ?k7 ?_; (case k1 => k_asm); (case k2 => k_asm); (case k3 => k_mem); (case k4 => k_mem); (case k5 => exact .cons _ _ .nil); (case k6 => assumption); (case k7 => (show 1 + (nums _).length ≤ _; simp only [nums, List.length_map]; omega))); (intro D9z h9z F9z N9z l9z I9z); (have q9z := allLt_of l9z); (dsimp only [AllLt] at q9z); (try dsimp only); (try k_fold)) <;> k_steps) | ((k_here; (with_reducible show wpAny _ _ (call (Value.type "tuple") [Value.ref _]) _ _ _); k_dflt (refine' tup_led ?k1 ?k2 ?k3 ?k4 ?_; (case k1 => k_asm); (case k2 => k_asm); (case k3 => k_mem); (case k4 => omega)); (intro D9z h9z F9z N9z); (try dsimp only); (try k_fold)) <;> k_steps) | ((k_here; (with_reducible show wpAny _ _ (call (Value.ref 85) [_, _]) _ _ _); k_dflt (refine' ell_k ?k1 ?k2 ?k3 ?k4 ?k5 ?kK ?kd ?ku ?hg ?hk1 ?hb ?hv ?_; (case k1 => k_asm); (case k2 => k_asm); (case k3 => k_asm); (case k4 => k_asm); (case k5 => k_asm); (case kK => first | exact rfl | assumption); (case kd => ktr_room); (case ku => ktr_units); (case hg => omega); (case hk1 => omega); (case hb => omega); (case hv => assumption)); (intro h9z tk9z F9z N9z); (try dsimp only); (try k_fold)) <;> k_steps) | ((k_here; (with_reducible show wpAny _ _ (call (Value.ref 116) [_, _]) _ _ _); k_dflt (refine' ind_c ?k1 ?k2 ?k3 ?k4 ?k5 ?kK ?kd ?ku ?ho ?hdx ?hnm ?hct ?hI ?hl ?h1 ?h2 ?_; (case k1 => k_asm); (case k2 => k_asm); (case k3 => k_asm); (case k4 => k_asm); (case k5 => k_asm); (case kK => first | exact rfl | assumption); (case kd => ktr_room); (case ku => ktr_units); (case ho => k_mem); (case hdx => k_mem); (case hnm => k_mem); (case hct => k_mem); (case hI => assumption); (case hl => assumption); (case h1 => omega); (case h2 => omega)); (intro t9z h9z tk9z F9z N9z); (try dsimp only); (try k_fold)) <;> k_steps) | ((k_here; (with_reducible show wpAny _ _ (call (Value.ref 147) [_]) _ _ _); k_dflt (refine' ws_g ?k1 ?k2 ?k3 ?k4 ?k5 ?kK ?kd ?ku ?hb ?hws ?_; (case k1 => k_asm); (case k2 => k_asm); (case k3 => k_asm); (case k4 => k_asm); (case k5 => k_asm); (case kK => first | exact rfl | assumption); (case kd => ktr_room); (case ku => ktr_units); (case hb => assumption); (case hws => assumption)); (intro h9z tk9z o9z dx9z nm9z ct9z cv9z k1 k2 k3 k4 k5 tn9z tt9z tb9z sb9z kk9z F9z N9z I9z); (try dsimp only); (try k_fold)) <;> k_steps)))
            all_goals exact ret _ _ (by k_asm) (cb_drop (by k_asm) (fun p hp => by simp [hp]))

end
end Mine

end PartPTold
section PartPTolF
open PySem PySem.W PyProof.Rows PySem.Calls PySem.Spec
set_option maxRecDepth 100000
set_option maxHeartbeats 8000000
set_option linter.unusedSectionVars false
namespace Mine
noncomputable def allB : Nat → List (List Bool)
  | 0 => [[]]
  | n + 1 => (allB n).flatMap fun l => [false :: l, true :: l]
theorem mem_allB : ∀ (n : Nat) (bs : List Bool), bs.length = n → bs ∈ allB n
  | 0, [], _ => List.mem_singleton.mpr rfl
  | n + 1, b :: bs, h => by
    refine List.mem_flatMap.mpr ⟨bs, mem_allB n bs (by simpa using h), ?_⟩
    cases b <;> simp
  | n + 1, [], h => by cases h
  | 0, _ :: _, h => by cases h
noncomputable def texts : List (List Bool) := allB 4 ++ allB 5 ++ allB 6
theorem mem_texts {bs : List Bool} (h1 : 4 ≤ bs.length) (h2 : bs.length ≤ 6) : bs ∈ texts := by
  unfold texts
  have : bs.length = 4 ∨ bs.length = 5 ∨ bs.length = 6 := by omega
  rcases this with h | h | h
  · exact List.mem_append_left _ (List.mem_append_left _ (mem_allB 4 bs h))
  · exact List.mem_append_left _ (List.mem_append_right _ (mem_allB 5 bs h))
  · exact List.mem_append_right _ (mem_allB 6 bs h)
noncomputable def runsL (c : Bool) : List Bool → List Nat
  | [] => [0]
  | b :: r => if b = c then 0 :: runsL c r else match runsL c r with
    | [] => [1]
    | x :: l => (x + 1) :: l
theorem runs_T : ∀ bs ∈ texts, (Txt.split (tx bs) (Str.ofString "\t")).map Str.length = runsL true bs := by decide +kernel
theorem runs_S : ∀ bs ∈ texts, (Txt.split (tx bs) (Str.ofString " ")).map Str.length = runsL false bs := by decide +kernel
noncomputable def factB (bs : List Bool) : Bool :=
  let r := runsL true bs
  let gp := r.dropLast
  let la := r.getLastD 0
  let st := runsL false bs
  decide (r = gp ++ [la]) && decide (wsRun bs ([], 0) = (cts gp, la)) && decide (bs.countP (· = true) = gp.length) && decide ((cts gp).length ≤ 100) &&
  decide (∀ i : Nat, i < bs.length + 1 → indF (cts gp) (la : Int) ((bs.countP (· = true) : Nat) : Int) (1 + (i : Int)) = ((nums gp).map fun g => g + (1 + (i : Int)) - g.fmod (1 + (i : Int))).sum + (la : Int)) &&
  decide (∀ k, k < st.length → subB (midB k (st.drop k).sum) bs = true ∧ subB (midB k ((st.drop k).sum + 1)) bs = false) &&
  decide (mxI gp ≤ 100) && decide (gp.length ≤ 100) && decide (st.length ≤ 100) && decide (∀ n ∈ gp ++ [la], n ≤ 1000) && decide (∀ n ∈ st, n ≤ 1000) && decide (st.sum ≤ 100)
theorem fact_all : ∀ bs ∈ texts, factB bs = true := by decide +kernel
theorem drop_sum (l : List Nat) : ∀ k, (l.drop k).sum ≤ l.sum := by
  induction l with
  | nil => intro k; simp
  | cons a l ih => intro k; cases k with
    | zero => simp
    | succ k => have := ih k; simp; omega
end Mine

end PartPTolF
section PartPTolA
open PySem PySem.W PyProof.Rows
set_option maxRecDepth 100000
set_option maxHeartbeats 8000000
set_option linter.unusedSectionVars false
open PySem.Flt
namespace Mine
section
variable {w : World} {mean : ExcName → Option Value} {mg mb : Str → Option Value} {dp un : Nat} {gd : Option (List Code)} {cn : Str} {cs : Scope} {a : Addr} {ccd : Value} {cl : List (Str × Addr)} {outer : List Env} {A₀ : Around} {base h₀ : Heap} {L : Addr} {m : Str → Option Value} {news : List (Addr × Obj)} {s : Shared} {Q E : Value → Shared → Prop}
 (B : Below A₀ base outer h₀) (F : Fr h₀ L s.heap m) (X : (Mine.hd.heap_1 w.params).In h₀) (N : News h₀ L s.heap news)
 (T : Top Mine.hd.view_1 (looseW Mine.hd.view_1 [Str.ofString "insort_right", Str.ofString "bisect_right", Str.ofString "insort_left", Str.ofString "bisect_left", Str.ofString "Whitespace"]) mean mg mb h₀) (hk : cs.kind = .function) (hd : dp + 3 < recursionLimit) (hu : un + 24 < cLine)
include B F X N T hk hd hu

theorem told_all {bs : List Bool} {t : Tok} (h4 : 4 ≤ bs.length) (h6 : bs.length ≤ 6)
 (ret : ∀ h' tk', Fr h₀ L h' m → News h₀ L h' news → Q (.bool true) {s with heap := h', toks := tk'})
 : wpAny (model PySem.Challenge.rw_sc0103_01.row.prog w) (ktrTop dp un gd cn cs L a ccd cl outer) (call (.ref 173) [.str (tx bs) t]) Q E s := by
  have hm := mem_texts h4 h6
  have hT := runs_T bs hm
  have hS := runs_S bs hm
  have hF := fact_all bs hm
  simp only [factB, Bool.and_eq_true, decide_eq_true_eq] at hF
  obtain ⟨⟨⟨⟨⟨⟨⟨⟨⟨⟨⟨f1, f2⟩, f3⟩, f4⟩, f5⟩, f6⟩, f7⟩, f8⟩, f9⟩, f10⟩, f11⟩, f12⟩ := hF
  rw [f1] at hT
  exact told_c B F X N T hk hd hu (by omega) hT hS f2 f3 f4 f5 f6 (fun k => Nat.le_trans (drop_sum _ k) f12) f7 f8 f9 f10 f11 ret

end
end Mine

end PartPTolA
section PartPSortA
open PySem PySem.W PyProof.Rows
set_option maxRecDepth 100000
set_option maxHeartbeats 8000000
set_option linter.unusedSectionVars false
namespace Mine
noncomputable def runT {α : Type} (lt : Nat → Nat → Bool) : KasT α → α
  | .ret a => a
  | .ask i j k => runT lt (k (lt i j))
noncomputable def inT {α : Type} (n : Nat) : KasT α → Bool
  | .ret _ => true
  | .ask i j k => Nat.blt i n && Nat.blt j n && inT n (k true) && inT n (k false)
noncomputable def hasP (a b : Nat) : List (Nat × Nat) → Bool
  | [] => false
  | p :: r => (Nat.beq p.1 a && Nat.beq p.2 b) || hasP a b r
noncomputable def reach (fs : List (Nat × Nat)) : Nat → Nat → Nat → Bool
  | 0, a, b => hasP a b fs
  | f + 1, a, b => hasP a b fs || fs.any fun p => Nat.beq p.1 a && reach fs f p.2 b
noncomputable def chainOk (fs : List (Nat × Nat)) : List Nat → Bool
  | a :: b :: r => reach fs 4 a b && chainOk fs (b :: r)
  | _ => true
noncomputable def forceL (x : List Nat) (k : List Nat → Bool) : Bool := match x with
  | [] => k []
  | a :: r => @Nat.rec (fun _ => Bool) (forceL r fun l => k (0 :: l)) (fun n _ => forceL r fun l => k ((n + 1) :: l)) a
noncomputable def checkT (n : Nat) : KasT (Array Nat) → List (Nat × Nat) → Bool
  | .ret p, fs => forceL p.toList fun l => chainOk fs l && Nat.beq l.length n && (List.range n).all fun i => l.any (Nat.beq i)
  | .ask i j k, fs => Nat.blt i n && Nat.blt j n && !Nat.beq i j && checkT n (k true) ((i, j) :: fs) && checkT n (k false) ((j, i) :: fs)
theorem chk4 : (inT 4 (kas_sort 4) && checkT 4 (kas_sort 4) []) = true := by decide +kernel
theorem chk5 : (inT 5 (kas_sort 5) && checkT 5 (kas_sort 5) []) = true := by decide +kernel
theorem chk6 : (inT 6 (kas_sort 6) && checkT 6 (kas_sort 6) []) = true := by decide +kernel
theorem forceL_is : ∀ (x : List Nat) (k : List Nat → Bool), forceL x k = k x
  | [], _ => rfl
  | a :: r, k => by
    cases a with
    | zero => show forceL r (fun l => k (0 :: l)) = _; rw [forceL_is r]
    | succ n => show forceL r (fun l => k ((n + 1) :: l)) = _; rw [forceL_is r]
theorem hasP_mem {a b : Nat} : ∀ {fs : List (Nat × Nat)}, hasP a b fs = true → (a, b) ∈ fs
  | [], h => nomatch h
  | p :: r, h => by
    unfold hasP at h
    rw [Bool.or_eq_true, Bool.and_eq_true] at h
    rcases h with ⟨h1, h2⟩ | h
    · have e1 := Nat.eq_of_beq_eq_true h1
      have e2 := Nat.eq_of_beq_eq_true h2
      subst e1; subst e2
      exact List.mem_cons_self
    · exact List.mem_cons_of_mem _ (hasP_mem h)
end Mine

end PartPSortA
section PartPSort
open PySem PySem.W PyProof.Rows
set_option maxRecDepth 100000
set_option maxHeartbeats 8000000
set_option linter.unusedSectionVars false
namespace Mine
theorem reach_sound {lt : Nat → Nat → Bool} (htr : ∀ a b c, lt a b = true → lt b c = true → lt a c = true) {fs : List (Nat × Nat)} (hf : ∀ p ∈ fs, lt p.1 p.2 = true) : ∀ f a b, reach fs f a b = true → lt a b = true
  | 0, _, _, h => hf _ (hasP_mem h)
  | f + 1, a, b, h => by
    unfold reach at h
    rw [Bool.or_eq_true] at h
    rcases h with h | h
    · exact hf _ (hasP_mem h)
    · obtain ⟨p, hp, h2⟩ := List.any_eq_true.mp h
      rw [Bool.and_eq_true] at h2
      have e := Nat.eq_of_beq_eq_true h2.1
      subst e
      exact htr _ _ _ (hf p hp) (reach_sound htr hf f _ _ h2.2)
noncomputable def Chn (lt : Nat → Nat → Bool) : List Nat → Prop
  | a :: b :: r => lt a b = true ∧ Chn lt (b :: r)
  | _ => True
theorem chain_sound {lt : Nat → Nat → Bool} (htr : ∀ a b c, lt a b = true → lt b c = true → lt a c = true) {fs : List (Nat × Nat)} (hf : ∀ p ∈ fs, lt p.1 p.2 = true) : ∀ l, chainOk fs l = true → Chn lt l
  | [], _ => trivial
  | [_], _ => trivial
  | a :: b :: r, h => by
    unfold chainOk at h
    rw [Bool.and_eq_true] at h
    exact ⟨reach_sound htr hf _ _ _ h.1, chain_sound htr hf _ h.2⟩
noncomputable def SortedP (n : Nat) (lt : Nat → Nat → Bool) (p : Array Nat) : Prop := Chn lt p.toList ∧ p.size = n ∧ ∀ i, i < n → i ∈ p.toList
theorem run_sound {n : Nat} {lt : Nat → Nat → Bool} (htr : ∀ a b c, lt a b = true → lt b c = true → lt a c = true) (hto : ∀ i j, i < n → j < n → i ≠ j → lt i j = false → lt j i = true) :
    ∀ (t : KasT (Array Nat)) (fs : List (Nat × Nat)), (∀ p ∈ fs, lt p.1 p.2 = true) → inT n t = true → checkT n t fs = true → SortedP n lt (runT lt t)
  | .ret p, fs, hf, _, hc => by
    unfold checkT at hc
    rw [forceL_is] at hc
    simp only [Bool.and_eq_true] at hc
    refine ⟨chain_sound htr hf _ hc.1.1, Nat.eq_of_beq_eq_true hc.1.2, fun i hi => ?_⟩
    have := List.all_eq_true.mp hc.2 i (List.mem_range.mpr hi)
    obtain ⟨x, hx, e⟩ := List.any_eq_true.mp this
    have e := Nat.eq_of_beq_eq_true e
    subst e
    exact hx
  | .ask i j k, fs, hf, hi, hc => by
    unfold checkT at hc
    unfold inT at hi
    simp only [Bool.and_eq_true] at hc hi
    have hij : i ≠ j := fun e => by
      have := hc.1.1.2
      rw [e, Nat.beq_refl] at this
      exact nomatch this
    have hin : i < n := Nat.le_of_ble_eq_true hi.1.1.1
    have hjn : j < n := Nat.le_of_ble_eq_true hi.1.1.2
    show SortedP n lt (runT lt (k (lt i j)))
    cases h : lt i j with
    | true => exact run_sound htr hto (k true) _ (fun p hp => by rcases List.mem_cons.mp hp with rfl | hp; exact h; exact hf p hp) hi.1.2 hc.1.2
    | false => exact run_sound htr hto (k false) _ (fun p hp => by rcases List.mem_cons.mp hp with rfl | hp; exact hto _ _ hin hjn hij h; exact hf p hp) hi.2 hc.2
theorem sort_sound {n : Nat} {lt : Nat → Nat → Bool} (h4 : 4 ≤ n) (h6 : n ≤ 6) (htr : ∀ a b c, lt a b = true → lt b c = true → lt a c = true) (hto : ∀ i j, i < n → j < n → i ≠ j → lt i j = false → lt j i = true) :
    inT n (kas_sort n) = true ∧ SortedP n lt (runT lt (kas_sort n)) := by
  have key : (inT n (kas_sort n) && checkT n (kas_sort n) []) = true := by
    have : n = 4 ∨ n = 5 ∨ n = 6 := by omega
    rcases this with rfl | rfl | rfl
    · exact chk4
    · exact chk5
    · exact chk6
  rw [Bool.and_eq_true] at key
  exact ⟨key.1, run_sound htr hto _ [] (fun p hp => nomatch hp) key.1 key.2⟩
theorem kas_oracle {n : Nat} {lt : Nat → Nat → Bool} {cmp : Nat → Nat → (Bool → Shared → Prop) → Shared → Prop} {Good : Shared → Prop} (hask : ∀ i j, i < n → j < n → ∀ C s, Good s → (∀ s', Good s' → C (lt i j) s') → cmp i j C s) {α : Type} {Q : α → Shared → Prop} :
    ∀ (t : KasT α) (s : Shared), inT n t = true → Good s → (∀ s', Good s' → Q (runT lt t) s') → KasT.kasWp cmp t Q s
  | .ret a, s, _, hg, h => h s hg
  | .ask i j k, s, hi, hg, h => by
    unfold inT at hi
    simp only [Bool.and_eq_true] at hi
    show cmp i j (fun b s' => KasT.kasWp cmp (k b) Q s') s
    refine hask i j (Nat.le_of_ble_eq_true hi.1.1.1) (Nat.le_of_ble_eq_true hi.1.1.2) _ s hg fun s' hg' => ?_
    refine kas_oracle hask (k (lt i j)) s' ?_ hg' h
    cases lt i j
    · exact hi.2
    · exact hi.1.2
end Mine

end PartPSort
section PartPSortR
open PySem PySem.W PyProof.Rows PySem.Calls PySem.Spec
set_option maxRecDepth 100000
set_option maxHeartbeats 8000000
set_option linter.unusedSectionVars false
namespace Mine
noncomputable def tup3 (a b c : Int) (t u v : Tok) : Obj := { cls := .type "tuple", data := .seq #[.int a t, .int b u, .int c v] }
noncomputable def ltW (W : Nat → Int) (i j : Nat) : Bool := decide (W i < W j) || (decide (W i = W j) && decide (i < j))
theorem ltW_trans {W : Nat → Int} (a b c : Nat) (h1 : ltW W a b = true) (h2 : ltW W b c = true) : ltW W a c = true := by
  unfold ltW at *
  simp only [Bool.or_eq_true, Bool.and_eq_true, decide_eq_true_eq] at *
  omega
theorem ltW_total {W : Nat → Int} (i j : Nat) (h : i ≠ j) (h2 : ltW W i j = false) : ltW W j i = true := by
  unfold ltW at *
  simp only [Bool.or_eq_true, Bool.and_eq_true, decide_eq_true_eq, Bool.or_eq_false_iff, Bool.and_eq_false_iff, decide_eq_false_iff_not] at *
  omega
section
variable {prog : Program} {w : World} {A : Around} {E : Value → Shared → Prop} {s : Shared} {h₀ : Heap} {L : Addr} {m : Str → Option Value} {news : List (Addr × Obj)}
noncomputable def TupsAt (news : List (Addr × Obj)) (vs : List Value) (W K : Nat → Int) : Prop :=
  ∀ i, i < vs.length → ∃ a t u v, vs[i]? = some (.ref a) ∧ (a, tup3 (W i) (i : Int) (K i) t u v) ∈ news
theorem katTups_of {h : Heap} {W : Nat → Int} : ∀ (vs : List Value) (k : Nat), (∀ i, i < vs.length → ∃ a p c t u v, vs[i]? = some (.ref a) ∧ h.get? a = some (tup3 (W (k + i)) p c t u v)) → ∃ fs, KatTups h vs fs ∧ fs.length = vs.length ∧ ∀ f ∈ fs, ∃ n t, f = Value.int n t
  | [], _, _ => ⟨[], trivial, rfl, fun f h => nomatch h⟩
  | x :: vs, k, hv => by
    obtain ⟨a, p, c, t, u, v, e, g⟩ := hv 0 (by simp)
    simp at e
    subst e
    obtain ⟨fs, h1, h2, h3⟩ := katTups_of vs (k + 1) fun i hi => by
      obtain ⟨a, p, c, t, u, v, e, g⟩ := hv (i + 1) (by simpa using hi)
      exact ⟨a, p, c, t, u, v, by simpa using e, by rw [show k + 1 + i = k + (i + 1) by omega]; exact g⟩
    refine ⟨.int (W k) t :: fs, ⟨⟨a, _, _, _, rfl, g, rfl, rfl, rfl⟩, h1⟩, by simp [h2], fun f hf => ?_⟩
    rcases List.mem_cons.mp hf with rfl | hf
    · exact ⟨_, _, rfl⟩
    · exact h3 f hf
theorem sorted_tups {l : Addr} {vs : List Value} {kk : Nat} {W K : Nat → Int} {Q : Value → Shared → Prop} (F : Fr h₀ L s.heap m) (N : News h₀ L s.heap news) (hl : (l, listO vs kk) ∈ news) (h4 : 4 ≤ vs.length) (h6 : vs.length ≤ 6) (ht : TupsAt news vs W K)
    (h : ∀ D c p h', Fr h₀ L h' m → News h₀ L h' ((D, listO (p.toList.map fun i => vs.getD i Value.none) c) :: news) → (∀ q ∈ news, q.1 < D) → SortedP vs.length (ltW W) p → Q (.ref D) { s with heap := h' }) :
    wpAny (model prog w) A (call (.builtin "sorted") [.ref l]) Q E s := by
  refine kat_sorted F N ⟨_, (N _ hl).1, rfl, _, rfl⟩ (by omega) (by omega) fun D e1 h' F' N' lt => ?_
  have N'' : News h₀ L h' news := fun p hp => N' p (List.mem_cons_of_mem _ hp)
  have hv : ∀ i, i < vs.length → ∃ a p c t u v, vs[i]? = some (.ref a) ∧ h'.get? a = some (tup3 (W (0 + i)) p c t u v) := fun i hi => by
    obtain ⟨a, t, u, v, e, hm⟩ := ht i hi
    exact ⟨a, _, _, t, u, v, e, by rw [Nat.zero_add]; exact (N'' _ hm).1⟩
  obtain ⟨fs, k1, k2, k3⟩ := katTups_of vs 0 hv
  refine kat_kind k1 (by omega) (T := .type "int") (fun f hf => by obtain ⟨n, t, rfl⟩ := k3 f hf; exact Looks.of_pure rfl) rfl ?_
  obtain ⟨hin, hso⟩ := sort_sound (lt := ltW W) h4 h6 ltW_trans (fun i j _ _ hne h2 => ltW_total i j hne h2)
  refine kas_oracle (n := vs.length) (lt := ltW W) (Good := fun s' => s' = { s with heap := h' }) ?_ _ _ hin rfl ?_
  · rintro i j hi hj C s' rfl hC
    obtain ⟨a, t, u, v, e, hm⟩ := ht i hi
    obtain ⟨a', t', u', v', e', hm'⟩ := ht j hj
    have g1 : vs.getD i Value.none = .ref a := by rw [List.getD_eq_getElem?_getD, e]; rfl
    have g2 : vs.getD j Value.none = .ref a' := by rw [List.getD_eq_getElem?_getD, e']; rfl
    show wpAny _ _ (keyLt' _ (vs.getD i Value.none) (vs.getD j Value.none)) C _ _
    rw [g1, g2]
    refine kat_lt (N'' _ hm).1 rfl (N'' _ hm').1 rfl ?_
    have hC' := hC _ rfl
    show wpAny _ _ (eqBool (.int (W i) t) (.int (W j) t')) _ _ _
    refine wpAny_eqBool_int ?_
    by_cases hw : W i = W j
    · rw [if_pos (by simpa using hw)]
      show wpAny _ _ (eqBool (.int (i : Int) u) (.int (j : Int) u')) _ _ _
      refine wpAny_eqBool_int ?_
      by_cases hij : i = j
      · rw [if_pos (by rw [beq_iff_eq]; omega)]
        show wpAny _ _ (eqBool (.int (K i) v) (.int (K j) v')) _ _ _
        refine wpAny_eqBool_int ?_
        subst hij
        rw [if_pos (by simp)]
        have el : ltW W i i = false := by simp [ltW]
        rw [el] at hC'
        exact hC'
      · rw [if_neg (by rw [beq_iff_eq]; omega)]
        refine kat_one _ _ (lt_int ?_)
        have el : ltW W i j = decide ((i : Int) < (j : Int)) := by simp [ltW, hw]
        rw [el] at hC'
        exact hC'
    · rw [if_neg (by simpa using hw)]
      refine oneLt_int ?_
      have el : ltW W i j = decide (W i < W j) := by simp [ltW, hw]
      rw [el] at hC'
      exact hC'
  · rintro s' rfl
    refine KasFin.intro F' N' (.head fun p hp => Nat.ne_of_lt (lt p hp)) fun h'' c F'' N'' => ?_
    exact h D c _ h'' F'' N'' lt hso
end
end Mine

end PartPSortR
section PartPResA
open PySem PySem.W PyProof.Rows
set_option maxRecDepth 100000
set_option maxHeartbeats 8000000
open PySem.Flt
namespace Mine
noncomputable def divI (a b : Int) : UInt64 := Float64.ofFrac (decide (a < 0) != decide (b < 0)) a.natAbs b.natAbs
noncomputable def kq (r : Nat) : Nat := r % 16
noncomputable def hf (r : Nat) : Nat := r / 16 % 2
noncomputable def lv (r : Nat) : Nat := r / 32 % 6 + 1
noncomputable def upp (r : Nat) : Nat := r / 192 % 2
noncomputable def wt (r : Nat) : Nat := lv r * (2 + hf r)
noncomputable def hueR (r : Nat) : UInt64 := Float64.add (divI (kq r) 16) (Float64.ofInt (upp r))
noncomputable def shR (r : Nat) : UInt64 := Float64.sub (Float64.ofInt 1) (divI (hf r) 2)
noncomputable def lvR (r : Nat) : UInt64 := divI (lv r) 8
noncomputable def hueT (r : Nat) : UInt64 := Float64.add (hueR r) (divI 9 32)
noncomputable abbrev Col := UInt64 × UInt64 × UInt64
noncomputable def colP (r : Nat) : Col := rgbOf (hueR r) (shR r) (lvR r)
noncomputable def colT (r : Nat) : Col := rgbOf (hueT r) (shR r) (lvR r)
noncomputable def neg1 (x : UInt64) : UInt64 := Float64.sub (Float64.ofInt 1) x
noncomputable def colG (r : Nat) : Col := (neg1 (colP r).1, neg1 (colP r).2.1, neg1 (colP r).2.2)
noncomputable def hueTn (r : Nat) : Nat := (2 * kq r + 9) % 32
noncomputable def hueGn (r : Nat) : Nat := (kq r + 8) % 16
noncomputable def force64 {α : Type} (x : UInt64) (k : UInt64 → α) : α := Nat.rec (k 0) (fun n _ => k (UInt64.ofNat (n + 1))) x.toNat
theorem force64_eq {α : Type} (x : UInt64) (k : UInt64 → α) : force64 x k = k x := by
  unfold force64
  have h : ∀ n : Nat, (Nat.rec (k 0) (fun n _ => k (UInt64.ofNat (n + 1))) n : α) = k (UInt64.ofNat n) := by
    intro n; cases n <;> rfl
  rw [h, UInt64.ofNat_toNat]
noncomputable def f6' : UInt64 := 4618441417868443648
noncomputable def f2' : UInt64 := 4611686018427387904
noncomputable def rgbChk (hm s : UInt64) : Bool := !(Float64.cmp s 0 == some .eq) && Float64.isFinite hm && decide (0 ≤ toInt Float64.truncOf hm ∧ toInt Float64.truncOf hm < 100)
noncomputable def forceN {α : Type} (x : Nat) (k : Nat → α) : α := Nat.rec (k 0) (fun n _ => k (n + 1)) x
theorem forceN_eq {α : Type} (x : Nat) (k : Nat → α) : forceN x k = k x := by cases x <;> rfl
noncomputable def hsvK (M m r g b : UInt64) (k : UInt64 → Bool) : Bool :=
  force64 (Float64.sub M m) fun d =>
  force64 (Float64.sub M r) fun r1 => force64 (Float64.sub M g) fun g1 => force64 (Float64.sub M b) fun b1 =>
  force64 (Float64.div r1 d) fun rc => force64 (Float64.div g1 d) fun gc => force64 (Float64.div b1 d) fun bc =>
  force64 (if (Float64.cmp r M == some .eq) = true then Float64.sub bc gc else if (Float64.cmp g M == some .eq) = true then force64 (Float64.add f2' rc) fun z => Float64.sub z bc else force64 (Float64.add 4616189618054758400 gc) fun z => Float64.sub z rc) fun h =>
  force64 (Float64.div h f6') fun h => force64 ((Float64.divmod h 4607182418800017408).2) k
theorem hsvK_eq (r g b : UInt64) (k : UInt64 → Bool) : hsvK (mx2 (mx2 r g) b) (mn2 (mn2 r g) b) r g b k = k (hsvH r g b) := by
  simp only [hsvK, force64_eq]
  rfl
noncomputable def colChk (r g b l h : UInt64) : Bool :=
  force64 (mx2 r g) fun a => force64 (mx2 a b) fun M => force64 (mn2 r g) fun a => force64 (mn2 a b) fun m =>
  force64 (Float64.add M m) fun sm => force64 (Float64.sub f2' M) fun q =>
  !(Float64.cmp m M == some .eq) && !(Float64.isZero (Float64.sub M m)) && !(Float64.isZero sm) && !(Float64.isZero (Float64.sub q m)) && !(Float64.isZero M) && decide (Float64.div sm f2' = l) && hsvK M m r g b fun x => decide (x = h)
noncomputable def rgbK (hm s v : UInt64) (k : UInt64 → UInt64 → UInt64 → Bool) : Bool :=
  forceN (toInt Float64.truncOf hm).toNat fun i =>
  force64 (Float64.ofInt (i : Int)) fun fi => force64 (Float64.sub hm fi) fun f =>
  force64 (Float64.sub 4607182418800017408 s) fun s1 => force64 (Float64.mul v s1) fun p =>
  force64 (Float64.mul s f) fun sf => force64 (Float64.sub 4607182418800017408 sf) fun s1 => force64 (Float64.mul v s1) fun q =>
  force64 (Float64.sub 4607182418800017408 f) fun f1 => force64 (Float64.mul s f1) fun sf => force64 (Float64.sub 4607182418800017408 sf) fun s1 => force64 (Float64.mul v s1) fun t =>
  forceN (i % 6) fun j => if j = 0 then k v t p else if j = 1 then k q v p else if j = 2 then k p v t else if j = 3 then k p q v else if j = 4 then k t p v else k v p q
noncomputable def chkR (r : Nat) : Bool :=
  force64 (divI (kq r) 16) fun hk => force64 (Float64.ofInt (upp r)) fun u => force64 (Float64.add hk u) fun h => force64 (divI (hf r) 2) fun s => force64 (Float64.sub (Float64.ofInt 1) s) fun s => force64 (divI (lv r) 8) fun v => force64 (Float64.add h (divI 9 32)) fun h2 =>
  force64 (Float64.mul h f6') fun hm => force64 (Float64.mul h2 f6') fun hm2 => force64 (divI (wt r) 32) fun w =>
  rgbChk hm s && rgbChk hm2 s &&
  (rgbK hm s v fun a b c => colChk a b c w hk && (force64 (neg1 a) fun a' => force64 (neg1 b) fun b' => force64 (neg1 c) fun c' => colChk a' b' c' (neg1 w) (divI (hueGn r) 16))) &&
   (rgbK hm2 s v fun a b c => colChk a b c w (divI (hueTn r) 32))
end Mine

end PartPResA
section PartPResB
open PySem PySem.W PyProof.Rows
set_option maxRecDepth 100000
set_option maxHeartbeats 8000000
open PySem.Flt
namespace Mine
theorem ch0 : (List.range' 0 24).all chkR = true := by decide +kernel
theorem ch1 : (List.range' 24 24).all chkR = true := by decide +kernel
theorem ch2 : (List.range' 48 24).all chkR = true := by decide +kernel
theorem ch3 : (List.range' 72 24).all chkR = true := by decide +kernel
theorem ch4 : (List.range' 96 24).all chkR = true := by decide +kernel
theorem ch5 : (List.range' 120 24).all chkR = true := by decide +kernel
theorem ch6 : (List.range' 144 24).all chkR = true := by decide +kernel
theorem ch7 : (List.range' 168 24).all chkR = true := by decide +kernel
end Mine

end PartPResB
section PartPResC
open PySem PySem.W PyProof.Rows
set_option maxRecDepth 100000
set_option maxHeartbeats 8000000
open PySem.Flt
namespace Mine
noncomputable def chkU (k : Nat) : Bool :=
  force64 (divI k 16) fun hk => force64 (Float64.add hk (Float64.ofInt 0)) fun h0 => force64 (Float64.add hk (Float64.ofInt 1)) fun h1 =>
  force64 (Float64.add h0 (divI 9 32)) fun g0 => force64 (Float64.add h1 (divI 9 32)) fun g1 =>
  force64 (Float64.mul h0 f6') fun h0 => force64 (Float64.mul h1 f6') fun h1 => force64 (Float64.mul g0 f6') fun g0 => force64 (Float64.mul g1 f6') fun g1 =>
  let c := fun a b : UInt64 => Float64.isFinite b && decide (0 ≤ toInt Float64.truncOf b ∧ toInt Float64.truncOf b < 100) && decide ((toInt Float64.truncOf b).fmod 6 = (toInt Float64.truncOf a).fmod 6) && decide (Float64.sub b (Float64.ofInt (toInt Float64.truncOf b)) = Float64.sub a (Float64.ofInt (toInt Float64.truncOf a)))
  c h0 h1 && c g0 g1
theorem chU : (List.range 16).all chkU = true := by decide +kernel
noncomputable def rgbOk (h s : UInt64) : Prop := (Float64.cmp s 0 == some .eq) = false ∧ Float64.isFinite (Float64.mul h f6) = true ∧ 0 ≤ toInt Float64.truncOf (Float64.mul h f6) ∧ toInt Float64.truncOf (Float64.mul h f6) < 100
theorem rgbChk_of {h s : UInt64} (e : rgbChk (Float64.mul h f6') s = true) : rgbOk h s := by
  unfold rgbChk at e
  simp only [Bool.and_eq_true, decide_eq_true_eq, Bool.not_eq_true'] at e
  exact ⟨e.1.1, e.1.2, e.2.1, e.2.2⟩
theorem rgbK_eq {h s v : UInt64} {k : UInt64 → UInt64 → UInt64 → Bool} (h0 : rgbOk h s) : rgbK (Float64.mul h f6') s v k = k (rgbOf h s v).1 (rgbOf h s v).2.1 (rgbOf h s v).2.2 := by
  have hi : 0 ≤ iOf h := h0.2.2.1
  have hj : ((iOf h).toNat : Int) = iOf h := Int.toNat_of_nonneg hi
  simp only [rgbK, force64_eq, forceN_eq]
  have e : toInt Float64.truncOf (Float64.mul h f6') = iOf h := rfl
  rw [e, hj]
  have ef : (iOf h).fmod 6 = (((iOf h).toNat % 6 : Nat) : Int) := by
    rw [Int.fmod_eq_emod_of_nonneg _ (by decide), Int.natCast_emod, hj]
    rfl
  unfold rgbOf
  rw [ef]
  have hlt : (iOf h).toNat % 6 < 6 := Nat.mod_lt _ (by decide)
  generalize (iOf h).toNat % 6 = j at hlt
  have : ∀ j, j < 6 → j = 0 ∨ j = 1 ∨ j = 2 ∨ j = 3 ∨ j = 4 ∨ j = 5 := by decide +kernel
  have := this j hlt
  rcases this with rfl | rfl | rfl | rfl | rfl | rfl <;> rfl
theorem colChk_of {r g b l h : UInt64} (e : colChk r g b l h = true) : colOk r g b ∧ hlsL r g b = l ∧ hsvH r g b = h := by
  unfold colChk at e
  simp only [force64_eq] at e
  rw [hsvK_eq] at e
  simp only [Bool.and_eq_true, decide_eq_true_eq, Bool.not_eq_true'] at e
  obtain ⟨⟨⟨⟨⟨⟨h1, h2⟩, h3⟩, h4⟩, h5⟩, h6⟩, h7⟩ := e
  exact ⟨⟨h1, h2, h3, h4, h5⟩, h6, h7⟩
noncomputable def ColIs (c : Col) (l h : UInt64) : Prop := colOk c.1 c.2.1 c.2.2 ∧ hlsL c.1 c.2.1 c.2.2 = l ∧ hsvH c.1 c.2.1 c.2.2 = h
noncomputable def ResOk (r : Nat) : Prop := rgbOk (hueR r) (shR r) ∧ rgbOk (hueT r) (shR r) ∧ ColIs (colP r) (divI (wt r) 32) (divI (kq r) 16) ∧ ColIs (colT r) (divI (wt r) 32) (divI (hueTn r) 32) ∧ ColIs (colG r) (neg1 (divI (wt r) 32)) (divI (hueGn r) 16)
theorem chk_of {r : Nat} (e : chkR r = true) : ResOk r := by
  unfold chkR at e
  simp only [force64_eq] at e
  rw [Bool.and_eq_true, Bool.and_eq_true, Bool.and_eq_true] at e
  obtain ⟨⟨⟨e1, e2⟩, e3⟩, e4⟩ := e
  have h1 : rgbOk (hueR r) (shR r) := rgbChk_of e1
  have h2 : rgbOk (hueT r) (shR r) := rgbChk_of e2
  have e3' := (rgbK_eq h1).symm.trans e3
  have e4' := (rgbK_eq h2).symm.trans e4
  rw [Bool.and_eq_true] at e3'
  exact ⟨h1, h2, colChk_of e3'.1, colChk_of e4', colChk_of e3'.2⟩
theorem chk_lo {r : Nat} (h : r < 192) : chkR r = true := by
  have key : ∀ a, (List.range' a 24).all chkR = true → a ≤ r → r < a + 24 → chkR r = true := fun a e h1 h2 =>
    List.all_eq_true.mp e r (List.mem_range'_1.mpr ⟨h1, h2⟩)
  have : ∀ r, r < 192 → r < 24 ∨ (24 ≤ r ∧ r < 48) ∨ (48 ≤ r ∧ r < 72) ∨ (72 ≤ r ∧ r < 96) ∨ (96 ≤ r ∧ r < 120) ∨ (120 ≤ r ∧ r < 144) ∨ (144 ≤ r ∧ r < 168) ∨ (168 ≤ r ∧ r < 192) := by decide +kernel
  have := this r h
  rcases this with q | q | q | q | q | q | q | q
  · exact key 0 ch0 (Nat.zero_le _) q
  · exact key 24 ch1 q.1 q.2
  · exact key 48 ch2 q.1 q.2
  · exact key 72 ch3 q.1 q.2
  · exact key 96 ch4 q.1 q.2
  · exact key 120 ch5 q.1 q.2
  · exact key 144 ch6 q.1 q.2
  · exact key 168 ch7 q.1 q.2
theorem rgbOf_same {h h' s v : UInt64} (e1 : (iOf h').fmod 6 = (iOf h).fmod 6) (e2 : rgbF h' s v = rgbF h s v) : rgbOf h' s v = rgbOf h s v := by
  unfold rgbOf rgbT rgbQ rgbP
  rw [e1, e2]
theorem res_hi : ∀ r, r < 384 → ¬ r < 192 → r - 192 < 192 ∧ kq r = kq (r - 192) ∧ hf r = hf (r - 192) ∧ lv r = lv (r - 192) ∧ upp r = 1 ∧ upp (r - 192) = 0 := by decide +kernel
theorem res_ok {r : Nat} (h : r < 384) : ResOk r := by
  by_cases hr : r < 192
  · exact chk_of (chk_lo hr)
  · obtain ⟨k0, k1, k2, k3, k4, k5⟩ := res_hi r h hr
    have h0 := chk_of (chk_lo (r := r - 192) k0)
    have k6 : wt r = wt (r - 192) := by unfold wt; rw [k2, k3]
    have k7 : shR r = shR (r - 192) := by unfold shR; rw [k2]
    have k8 : lvR r = lvR (r - 192) := by unfold lvR; rw [k3]
    have k9 : hueTn r = hueTn (r - 192) := by unfold hueTn; rw [k1]
    have k10 : hueGn r = hueGn (r - 192) := by unfold hueGn; rw [k1]
    have hU : chkU (kq (r - 192)) = true := List.all_eq_true.mp chU _ (List.mem_range.mpr (Nat.mod_lt _ (by decide)))
    unfold chkU at hU
    simp only [force64_eq, Bool.and_eq_true, decide_eq_true_eq] at hU
    obtain ⟨⟨⟨⟨a1, a2⟩, a3⟩, a4⟩, ⟨⟨b1, b2⟩, b3⟩, b4⟩ := hU
    have q1 : hueR r = Float64.add (divI (kq (r - 192)) 16) (Float64.ofInt 1) := by unfold hueR; rw [k1, k4]; rfl
    have q0 : hueR (r - 192) = Float64.add (divI (kq (r - 192)) 16) (Float64.ofInt 0) := by unfold hueR; rw [k5]; rfl
    have p1 : hueT r = Float64.add (Float64.add (divI (kq (r - 192)) 16) (Float64.ofInt 1)) (divI 9 32) := by unfold hueT; rw [q1]
    have p0 : hueT (r - 192) = Float64.add (Float64.add (divI (kq (r - 192)) 16) (Float64.ofInt 0)) (divI 9 32) := by unfold hueT; rw [q0]
    obtain ⟨o1, o2, o3, o4, o5⟩ := h0
    have hP : colP r = colP (r - 192) := by
      unfold colP
      rw [k7, k8, q1, q0]
      exact rgbOf_same a3 a4
    have hT : colT r = colT (r - 192) := by
      unfold colT
      rw [k7, k8, p1, p0]
      exact rgbOf_same b3 b4
    have hG : colG r = colG (r - 192) := by unfold colG; rw [hP]
    refine ⟨?_, ?_, ?_, ?_, ?_⟩
    · rw [k7, q1]; exact ⟨o1.1, a1, a2.1, a2.2⟩
    · rw [k7, p1]; exact ⟨o2.1, b1, b2.1, b2.2⟩
    · rw [hP, k6, k1]; exact o3
    · rw [hT, k6, k9]; exact o4
    · rw [hG, k6, k10]; exact o5
end Mine

end PartPResC
section PartPIv
open PySem PySem.W PyProof.Rows
set_option maxRecDepth 100000
set_option maxHeartbeats 8000000
open PySem.Flt
namespace Mine
noncomputable def cntW (W : Nat → Nat) (l : List Nat) (x : Nat) : Nat := l.countP fun j => decide (W j ≤ W x)
noncomputable def insAt (W : Nat → Nat) (l : List Nat) (x : Nat) : List Nat := l.take (cntW W l x) ++ x :: l.drop (cntW W l x)
noncomputable def insAll (W : Nat → Nat) : Nat → List Nat
  | 0 => []
  | i + 1 => insAt W (insAll W i) i
noncomputable def SLt (W : Nat → Nat) (i j : Nat) : Prop := W i < W j ∨ (W i = W j ∧ i < j)
theorem cnt_le (W : Nat → Nat) (l : List Nat) (x : Nat) : cntW W l x ≤ l.length := List.countP_le_length
theorem cnt_at {W : Nat → Nat} {x : Nat} : ∀ {l : List Nat}, l.Pairwise (SLt W) → ∀ {j p : Nat}, l[j]? = some p → (W x < W p ↔ cntW W l x ≤ j)
  | [], _, j, p, h => by simp at h
  | a :: l, hs, j, p, h => by
    rw [List.pairwise_cons] at hs
    have ih : ∀ {j p : Nat}, l[j]? = some p → (W x < W p ↔ cntW W l x ≤ j) := fun h => cnt_at (x := x) hs.2 h
    by_cases ha : W a ≤ W x
    · have e : cntW W (a :: l) x = cntW W l x + 1 := by unfold cntW; rw [List.countP_cons_of_pos (by simpa using ha)]
      rw [e]
      cases j with
      | zero => simp at h; subst h; constructor <;> intro q <;> omega
      | succ j => rw [ih (by simpa using h)]; omega
    · have hall : ∀ b ∈ l, W x < W b := fun b hb => by rcases hs.1 b hb with q | q <;> omega
      have e : cntW W (a :: l) x = 0 := by
        unfold cntW
        rw [List.countP_eq_zero]
        intro b hb
        rcases List.mem_cons.mp hb with rfl | hb
        · simpa using ha
        · have := hall b hb; simp; omega
      rw [e]
      cases j with
      | zero => simp at h; subst h; constructor <;> intro q <;> omega
      | succ j => have := hall p (List.mem_of_getElem? (by simpa using h)); constructor <;> intro q <;> omega
theorem insAll_len (W : Nat → Nat) : ∀ i, (insAll W i).length = i
  | 0 => rfl
  | i + 1 => by
    have ih := insAll_len W i
    have := cnt_le W (insAll W i) i
    show (insAt W (insAll W i) i).length = _
    unfold insAt
    simp only [List.length_append, List.length_take, List.length_cons, List.length_drop]
    omega
theorem mem_insAt {W : Nat → Nat} {l : List Nat} {x y : Nat} : y ∈ insAt W l x ↔ y = x ∨ y ∈ l := by
  unfold insAt
  have : y ∈ l ↔ y ∈ l.take (cntW W l x) ∨ y ∈ l.drop (cntW W l x) := by rw [← List.mem_append, List.take_append_drop]
  rw [List.mem_append, List.mem_cons, this]
  constructor
  · rintro (h | h | h)
    · exact .inr (.inl h)
    · exact .inl h
    · exact .inr (.inr h)
  · rintro (h | h | h)
    · exact .inr (.inl h)
    · exact .inl h
    · exact .inr (.inr h)
theorem insAll_mem {W : Nat → Nat} : ∀ {i y : Nat}, y ∈ insAll W i ↔ y < i
  | 0, y => by simp [insAll]
  | i + 1, y => by
    show y ∈ insAt W (insAll W i) i ↔ _
    rw [mem_insAt, insAll_mem (i := i)]
    omega
theorem insAll_sorted (W : Nat → Nat) : ∀ i, (insAll W i).Pairwise (SLt W)
  | 0 => List.Pairwise.nil
  | i + 1 => by
    have ih := insAll_sorted W i
    show (insAt W (insAll W i) i).Pairwise _
    unfold insAt
    have hlt : ∀ y ∈ insAll W i, y < i := fun y h => insAll_mem.mp h
    have hc := @cnt_at W i _ ih
    have hsplit := List.pairwise_append.mp (by rw [List.take_append_drop (cntW W (insAll W i) i)]; exact ih : ((insAll W i).take (cntW W (insAll W i) i) ++ (insAll W i).drop (cntW W (insAll W i) i)).Pairwise (SLt W))
    rw [List.pairwise_append, List.pairwise_cons]
    refine ⟨hsplit.1, ⟨fun y hy => ?_, hsplit.2.1⟩, fun a ha b hb => ?_⟩
    · obtain ⟨j, hj⟩ := List.mem_iff_getElem?.mp hy
      rw [List.getElem?_drop] at hj
      exact .inl ((hc hj).mpr (Nat.le_add_right _ _))
    · rcases List.mem_cons.mp hb with rfl | hb
      · obtain ⟨j, hj⟩ := List.mem_iff_getElem?.mp ha
        rw [List.getElem?_take] at hj
        split at hj
        · rename_i hlt'
          have h1 := hc hj
          have h2 := hlt a (List.mem_of_mem_take ha)
          unfold SLt
          by_cases q : W b < W a
          · have := h1.mp q; omega
          · omega
        · cases hj
      · exact hsplit.2.2 a ha b hb
theorem slt_irr {W : Nat → Nat} {a : Nat} (h : SLt W a a) : False := by rcases h with q | q <;> omega
theorem slt_trans {W : Nat → Nat} {a b c : Nat} (h : SLt W a b) (h2 : SLt W b c) : SLt W a c := by unfold SLt at *; omega
theorem sub_sorted {W : Nat → Nat} : ∀ {p l : List Nat}, p.Pairwise (SLt W) → l.Pairwise (SLt W) → (∀ x ∈ l, x ∈ p) → l.Sublist p
  | [], [], _, _, _ => .slnil
  | [], b :: l, _, _, h => absurd (h b (.head _)) (by simp)
  | a :: p, [], _, _, _ => List.nil_sublist _
  | a :: p, b :: l, hp, hl, h => by
    rw [List.pairwise_cons] at hp
    have hl' := List.pairwise_cons.mp hl
    by_cases e : b = a
    · subst e
      refine .cons_cons _ (sub_sorted hp.2 hl'.2 fun x hx => ?_)
      rcases List.mem_cons.mp (h x (.tail _ hx)) with rfl | q
      · exact (slt_irr (hl'.1 _ hx)).elim
      · exact q
    · refine .cons _ (sub_sorted hp.2 hl fun x hx => ?_)
      have hb : b ∈ p := by
        rcases List.mem_cons.mp (h b (.head _)) with q | q
        · exact absurd q e
        · exact q
      rcases List.mem_cons.mp (h x hx) with rfl | q
      · rcases List.mem_cons.mp hx with rfl | hx
        · exact absurd rfl e
        · exact (slt_irr (slt_trans (hp.1 b hb) (hl'.1 _ hx))).elim
      · exact q
theorem chn_pair {W : Nat → Nat} : ∀ {l : List Nat}, Chn (ltW fun i => (W i : Int)) l → l.Pairwise (SLt W)
  | [], _ => List.Pairwise.nil
  | [a], _ => by simp
  | a :: b :: r, h => by
    have ih := chn_pair (l := b :: r) h.2
    have hab : SLt W a b := by
      have := h.1
      unfold ltW at this
      simp only [Bool.or_eq_true, Bool.and_eq_true, decide_eq_true_eq] at this
      unfold SLt
      omega
    rw [List.pairwise_cons]
    refine ⟨fun y hy => ?_, ih⟩
    rcases List.mem_cons.mp hy with rfl | hy
    · exact hab
    · exact slt_trans hab ((List.pairwise_cons.mp ih).1 y hy)
theorem sorted_is {W : Nat → Nat} {n : Nat} {p : Array Nat} (h : SortedP n (ltW fun i => (W i : Int)) p) : p.toList = insAll W n := by
  obtain ⟨h1, h2, h3⟩ := h
  have hs := sub_sorted (chn_pair h1) (insAll_sorted W n) fun x hx => h3 x (insAll_mem.mp hx)
  exact (hs.eq_of_length (by rw [insAll_len]; exact h2.symm)).symm
theorem rev_ins (W : Nat → Nat) (l : List Nat) (x : Nat) : l.reverse.take (l.length - cntW W l x) ++ x :: l.reverse.drop (l.length - cntW W l x) = (insAt W l x).reverse := by
  unfold insAt
  have h := cnt_le W l x
  rw [List.reverse_append, List.reverse_cons, List.reverse_take, List.reverse_drop]
  simp
end Mine

end PartPIv
section PartPLawD
open PySem PySem.W PyProof.Rows
set_option maxRecDepth 100000
set_option maxHeartbeats 2000000
namespace Mine
noncomputable def getD {q : Program} {loose : List Str} {XP : (Str → Option Value) → Heap → Prop} {YP : World → Heap → Prop} {r : RowW} {d : DefRec} {kwd : List (Str × Expr)} {run : Value → List Value → Sem Value} {C : Prop} (_ : WalkO q loose XP YP r d kwd run → C) : DefRec := d
noncomputable def lawD : DefRec := getD Mine.hd
example : lawD.body.length = 22 := rfl
example : lawD.name = Str.ofString "law" := rfl
noncomputable abbrev lawA (dp un : Nat) (gd : Option (List Code)) (L a : Addr) (ccd : Value) (outer : List Env) : Around := ktrTop dp un gd (Str.ofString "law") lawD.scope L a ccd (cellsFrom (L + 1) lawD.scope.names []) outer
noncomputable abbrev lawE (L a : Addr) (ccd : Value) : Env := envOfC (Str.ofString "law") lawD.scope L a ccd
end Mine

end PartPLawD
section PartPRul
open PySem PySem.W PyProof.Rows PySem.Calls PySem.Spec
set_option maxRecDepth 100000
set_option maxHeartbeats 8000000
set_option linter.unusedSectionVars false
open PySem.Flt
namespace Mine
section
variable {prog : Program} {w : World} {A : Around} {E : Value → Shared → Prop} {s : Shared} {t u : Tok} {Q : Value → Shared → Prop}
theorem add_as {a b c : Int} (e : a + b = c) (h : ∀ t' k, s.toks ≤ t' → t' < k → Q (.int c t') { s with toks := k }) : wpAny (model prog w) A (binaryOp .Add (.int a t) (.int b u)) Q E s := by
  subst e; exact PyProof.Rows.add_int (h _ _ (Nat.le_refl _) (Nat.lt_succ_self _))
theorem mod_as {a b c : Int} (e : a.fmod b = c) (hb : b ≠ 0) (h : ∀ t' k, s.toks ≤ t' → t' < k → Q (.int c t') { s with toks := k }) : wpAny (model prog w) A (binaryOp .Mod (.int a t) (.int b u)) Q E s := by
  subst e; exact mod_int' hb (h _ _ (Nat.le_refl _) (Nat.lt_succ_self _))
theorem mul_as {a b c : Int} (e : a * b = c) (h0 : 0 ≤ a) (h1 : a ≤ 100) (h : ∀ t' k, s.toks ≤ t' → t' < k → Q (.int c t') { s with toks := k }) : wpAny (model prog w) A (binaryOp .Mult (.int a t) (.int b u)) Q E s := by
  subst e
  refine PySem.P.mul_int (h _ _ (Nat.le_refl _) (Nat.lt_succ_self _)) (IntMulOk.of_left ?_)
  have key : ∀ n : Nat, n ≤ 100 → Builtin.Int.intBits (n : Int) ≤ 64 := by decide +kernel
  have := key a.toNat (by omega)
  rwa [Int.toNat_of_nonneg h0] at this
theorem div_as {a b : Int} (hA : A.handled = none) (h0 : 0 ≤ a) (ha : a < 10000) (hb : 0 < b) (h : ∀ t' k, s.toks ≤ t' → t' < k → Q (.float (divI a b) t') { s with toks := k }) : wpAny (model prog w) A (binaryOp .Div (.int a t) (.int b u)) Q E s := by
  refine div_ii_fits hA ?_ (fun e => absurd e (Int.ne_of_gt hb)) (fun _ _ => h _ _ (Nat.le_refl _) (Nat.lt_succ_self _))
  have h1 : a.natAbs < 10000 := by omega
  exact Nat.lt_trans h1 (by decide +kernel)
theorem addf_as {x c : UInt64} {n : Int} (e : Float64.add x (Float64.ofInt n) = c) (h0 : 0 ≤ n) (hn : n < 10000) (h : ∀ t' k, s.toks ≤ t' → t' < k → Q (.float c t') { s with toks := k }) : wpAny (model prog w) A (binaryOp .Add (.float x t) (.int n u)) Q E s := by
  subst e
  exact add_fi_fits (Nat.lt_trans (by omega : n.natAbs < 10000) (by decide +kernel)) (h _ _ (Nat.le_refl _) (Nat.lt_succ_self _))
theorem neg_as {x c : UInt64} (e : neg1 x = c) (h : ∀ t' k, s.toks ≤ t' → t' < k → Q (.float c t') { s with toks := k }) : wpAny (model prog w) A (binaryOp .Sub (.int 1 u) (.float x t)) Q E s := by
  subst e
  exact sub_if_fits (by decide +kernel) (h _ _ (Nat.le_refl _) (Nat.lt_succ_self _))
theorem addff_as {x y c : UInt64} (e : Float64.add x y = c) (h : ∀ t' k, s.toks ≤ t' → t' < k → Q (.float c t') { s with toks := k }) : wpAny (model prog w) A (binaryOp .Add (.float x t) (.float y u)) Q E s := by
  subst e
  exact add_float (h _ _ (Nat.le_refl _) (Nat.lt_succ_self _))
end
-- residues
noncomputable def rs (x : Int) : Nat := (x % 384).toNat
theorem rs_lt (x : Int) : rs x < 384 := (Int.toNat_lt (Int.emod_nonneg _ (by decide))).mpr (Int.emod_lt_of_pos _ (by decide))
theorem rs_cast (x : Int) : ((rs x : Nat) : Int) = x % 384 := Int.toNat_of_nonneg (Int.emod_nonneg _ (by decide))
theorem rs_dm (x : Int) {d m : Nat} (e : Nat) (hd : (d : Int) ≠ 0) (h : 384 = d * (m * e)) : x / (d : Int) % (m : Int) = ((rs x / d % m : Nat) : Int) := by
  rw [Int.natCast_emod, Int.natCast_ediv, rs_cast]
  have h2 : x = x % 384 + (d : Int) * ((m : Int) * ((e : Int) * (x / 384))) := by
    have h3 : (d : Int) * ((m : Int) * ((e : Int) * (x / 384))) = 384 * (x / 384) := by
      rw [← Int.mul_assoc (m : Int), ← Int.mul_assoc (d : Int), ← Int.natCast_mul, ← Int.natCast_mul, ← h]; rfl
    rw [h3]; exact (Int.emod_add_mul_ediv x 384).symm
  conv => lhs; rw [h2]
  rw [Int.add_mul_ediv_left _ _ hd, Int.add_mul_emod_self_left]
theorem rs_half (x : Int) : (x.fdiv 16).fmod 2 = (hf (rs x) : Int) := by
  rw [Int.fdiv_eq_ediv_of_nonneg _ (by decide), Int.fmod_eq_emod_of_nonneg _ (by decide)]
  exact rs_dm x (d := 16) (m := 2) 12 (by decide) (by decide)
theorem rs_level (x : Int) : (x.fdiv 32).fmod 6 = ((rs x / 32 % 6 : Nat) : Int) := by
  rw [Int.fdiv_eq_ediv_of_nonneg _ (by decide), Int.fmod_eq_emod_of_nonneg _ (by decide)]
  exact rs_dm x (d := 32) (m := 6) 2 (by decide) (by decide)
theorem rs_lv (r : Nat) : ((r / 32 % 6 : Nat) : Int) + 1 = (lv r : Int) := rfl
theorem rs_k (x : Int) : x.fmod 16 = (kq (rs x) : Int) := by
  rw [Int.fmod_eq_emod_of_nonneg _ (by decide)]
  unfold kq
  rw [Int.natCast_emod, rs_cast]
  exact (Int.emod_emod_of_dvd x (by decide : (16 : Int) ∣ 384)).symm
theorem rs_u (x : Int) : (x.fdiv 192).fmod 2 = (upp (rs x) : Int) := by
  rw [Int.fdiv_eq_ediv_of_nonneg _ (by decide), Int.fmod_eq_emod_of_nonneg _ (by decide)]
  exact rs_dm x (d := 192) (m := 2) 1 (by decide) (by decide)
theorem kq_lt (r : Nat) : kq r < 16 := Nat.mod_lt _ (by decide)
theorem wt_le (r : Nat) : wt r ≤ 18 := by
  have h1 : lv r ≤ 6 := Nat.mod_lt _ (by decide)
  have h2 : 2 + hf r ≤ 3 := Nat.add_le_add_left (Nat.le_of_lt_succ (Nat.mod_lt _ (by decide))) 2
  exact Nat.mul_le_mul h1 h2
theorem hf_le (r : Nat) : hf r ≤ 1 := Nat.le_of_lt_succ (Nat.mod_lt _ (by decide))
theorem lv_le (r : Nat) : lv r ≤ 6 := Nat.mod_lt _ (by decide)
theorem upp_le (r : Nat) : upp r ≤ 1 := Nat.le_of_lt_succ (Nat.mod_lt _ (by decide))
theorem wt_mul (r : Nat) : (lv r : Int) * (2 + (hf r : Int)) = (wt r : Int) := by unfold wt; push_cast; rfl
-- lights compared
noncomputable def lgt32 (a : Nat) : UInt64 := divI (a : Int) 32
theorem lgt_cmp {a b : Nat} (ha : a ≤ 18) (hb : b ≤ 18) : (Float64.cmp (divI (a : Int) 32) (divI (b : Int) 32) == some .lt) = decide (a < b) := by
  have key : ∀ a : Nat, a ≤ 18 → ∀ b : Nat, b ≤ 18 → (Float64.cmp (divI (a : Int) 32) (divI (b : Int) 32) == some .lt) = decide (a < b) := by decide +kernel
  exact key a ha b hb
theorem lgn_cmp {a b : Nat} (ha : a ≤ 18) (hb : b ≤ 18) : (Float64.cmp (neg1 (divI (a : Int) 32)) (neg1 (divI (b : Int) 32)) == some .lt) = decide (b < a) := by
  have key : ∀ a : Nat, a ≤ 18 → ∀ b : Nat, b ≤ 18 → (Float64.cmp (neg1 (divI (a : Int) 32)) (neg1 (divI (b : Int) 32)) == some .lt) = decide (b < a) := by decide +kernel
  exact key a ha b hb
-- the rows
noncomputable abbrev colO (c : Col) (t1 t2 t3 : Tok) : Obj := tupO [.float c.1 t1, .float c.2.1 t2, .float c.2.2 t3]
noncomputable def ColsL (ext : List (Addr × Obj)) (vs : List Value) (l : List Nat) (col : Nat → Col) : Prop :=
  vs.length = l.length ∧ ∀ (j p : Nat), l[j]? = some p → ∃ (a : Addr) (t1 t2 t3 : Tok), vs[j]? = some (Value.ref a) ∧ (a, colO (col p) t1 t2 t3) ∈ ext
theorem ColsL.mono {ext ext' : List (Addr × Obj)} {vs : List Value} {l : List Nat} {col : Nat → Col} (h : ColsL ext vs l col) (hs : ∀ p ∈ ext, p ∈ ext') : ColsL ext' vs l col :=
  ⟨h.1, fun j p e => by obtain ⟨a, t1, t2, t3, e1, e2⟩ := h.2 j p e; exact ⟨a, t1, t2, t3, e1, hs _ e2⟩⟩
theorem ColsL.ins {ext : List (Addr × Obj)} {vs : List Value} {l : List Nat} {col : Nat → Col} (h : ColsL ext vs l col) {i p : Nat} {a : Addr} {t1 t2 t3 : Tok} (hi : i ≤ l.length) (hm : (a, colO (col p) t1 t2 t3) ∈ ext) :
    ColsL ext (vs.take i ++ .ref a :: vs.drop i) (l.take i ++ p :: l.drop i) col := by
  refine ⟨by simp [h.1], fun j q e => ?_⟩
  have hl := h.1
  rw [List.getElem?_append] at e ⊢
  rw [List.length_take, Nat.min_eq_left hi] at e
  rw [List.length_take, Nat.min_eq_left (by omega)]
  split at e
  · rename_i hj
    rw [if_pos hj]
    rw [List.getElem?_take_of_lt hj] at e ⊢
    exact h.2 j q e
  · rename_i hj
    rw [if_neg hj]
    cases hk : j - i with
    | zero =>
      rw [hk] at e
      have e' : p = q := by simpa using e
      subst e'
      exact ⟨a, t1, t2, t3, rfl, hm⟩
    | succ k =>
      rw [hk] at e
      rw [List.getElem?_cons_succ, List.getElem?_drop] at e ⊢
      exact h.2 _ q e
theorem ColsL.are {ext news : List (Addr × Obj)} {vs : List Value} {l : List Nat} {col : Nat → Col} (h : ColsL ext vs l col) (hs : ∀ p ∈ ext, p ∈ news) {R : Nat → UInt64 → UInt64 → UInt64 → Prop} (hok : ∀ p, colOk (col p).1 (col p).2.1 (col p).2.2)
    (hR : ∀ j p, l[j]? = some p → R j (col p).1 (col p).2.1 (col p).2.2) : ColsAre news vs R := by
  intro j hj
  have hj' : j < l.length := by rw [← h.1]; exact hj
  have e : l[j]? = some l[j] := List.getElem?_eq_getElem hj'
  obtain ⟨a, t1, t2, t3, e1, e2⟩ := h.2 j _ e
  exact ⟨a, t1, t2, t3, _, _, _, e1, hs _ e2, hok _, hR j _ e⟩
theorem ins_R {W : Nat → Nat} {l : List Nat} {x j p : Nat} (hs : l.Pairwise (SLt W)) (hW : ∀ p, W p ≤ 18) (e : l[j]? = some p) : (Float64.cmp (divI (W x : Int) 32) (divI (W p : Int) 32) == some .lt) = decide (cntW W l x ≤ j) := by
  rw [lgt_cmp (hW _) (hW _)]
  exact decide_eq_decide.mpr (cnt_at hs e)
theorem ins_L {W : Nat → Nat} {l : List Nat} {x j p : Nat} (hs : l.Pairwise (SLt W)) (hW : ∀ p, W p ≤ 18) (e : l.reverse[j]? = some p) : (Float64.cmp (neg1 (divI (W p : Int) 32)) (neg1 (divI (W x : Int) 32)) == some .lt) = decide (j < l.length - cntW W l x) := by
  rw [lgn_cmp (hW _) (hW _)]
  have hj : j < l.length := by
    rcases List.getElem?_eq_some_iff.mp e with ⟨q, _⟩
    simpa using q
  rw [List.getElem?_reverse hj] at e
  have := cnt_at (x := x) hs e
  have h2 := cnt_le W l x
  have h3 : ∀ {n c j : Nat} {a : Prop}, j < n → c ≤ n → (a ↔ c ≤ n - 1 - j) → (a ↔ j < n - c) := by intro n c j a _ _ h; rw [h]; clear h; omega
  exact decide_eq_decide.mpr (h3 hj h2 this)
end Mine

end PartPRul
section PartPLoop
open PySem PySem.W PyProof.Rows PySem.Calls PySem.Spec
set_option maxRecDepth 100000
set_option maxHeartbeats 8000000
set_option linter.unusedSectionVars false
open PySem.Flt
namespace Mine
noncomputable def loopB : List Stmt := match lawD.body with | [_, _, _, _, _, _, .For _ _ b _ _, _, _, _, _, _, _, _, _, _, _, _, _, _, _, _] => b | _ => []
noncomputable def res (ns : List Int) (p : Nat) : Nat := rs (ns.getD p 0)
noncomputable def Wn (ns : List Int) (p : Nat) : Nat := wt (res ns p)
noncomputable def Kn (ns : List Int) (p : Nat) : Nat := kq (res ns p)
theorem res_lt (ns : List Int) (p : Nat) : res ns p < 384 := rs_lt _
theorem Wn_le (ns : List Int) (p : Nat) : Wn ns p ≤ 18 := wt_le _
structure LS where
  vo : List Value
  vp : List Value
  vt : List Value
  vg : List Value
  ko : Nat
  kp : Nat
  kt : Nat
  kg : Nat
  ext : List (Addr × Obj)
noncomputable def ledL (O P T0 G D0 : Addr) (vd : List Value) (kd : Nat) (c : LS) : List (Addr × Obj) := (O, listO c.vo c.ko) :: (P, listO c.vp c.kp) :: (T0, listO c.vt c.kt) :: (G, listO c.vg c.kg) :: (D0, listO vd kd) :: c.ext
noncomputable def OrdL (ns : List Int) (ext : List (Addr × Obj)) (vo : List Value) : Prop := ∀ j, j < vo.length → ∃ (a : Addr) (t u v : Tok), vo[j]? = some (Value.ref a) ∧ (a, tup3 (Wn ns j : Int) (j : Int) (Kn ns j : Int) t u v) ∈ ext
structure InvL (ns : List Int) (base : List (Addr × Obj)) (O P T0 G D0 : Addr) (i : Nat) (c : LS) : Prop where
  lo : c.vo.length = i
  ord : OrdL ns c.ext c.vo
  cp : ColsL c.ext c.vp (insAll (Wn ns) i) (fun p => colP (res ns p))
  ct : ColsL c.ext c.vt (insAll (Wn ns) i) (fun p => colT (res ns p))
  cg : ColsL c.ext c.vg (insAll (Wn ns) i).reverse (fun p => colG (res ns p))
  a1 : ∀ p ∈ c.ext, p.1 ≠ O
  a2 : ∀ p ∈ c.ext, p.1 ≠ P
  a3 : ∀ p ∈ c.ext, p.1 ≠ T0
  a4 : ∀ p ∈ c.ext, p.1 ≠ G
  bs : ∀ p ∈ base, p ∈ c.ext
structure RdyR (ext : List (Addr × Obj)) (vs : List Value) (k : Nat) (c : Col) : Prop where
  hk : k ≤ vs.length
  hn : vs.length ≤ 900
  ok : colOk c.1 c.2.1 c.2.2
  at_ : ColsAre ext vs fun j r g b => (Float64.cmp (hlsL c.1 c.2.1 c.2.2) (hlsL r g b) == some .lt) = decide (k ≤ j)
structure RdyL (ext : List (Addr × Obj)) (vs : List Value) (k : Nat) (c : Col) : Prop where
  hk : k ≤ vs.length
  hn : vs.length ≤ 900
  ok : colOk c.1 c.2.1 c.2.2
  at_ : ColsAre ext vs fun j r g b => (Float64.cmp (hlsL r g b) (hlsL c.1 c.2.1 c.2.2) == some .lt) = decide (j < k)
theorem cols_mono {ext news : List (Addr × Obj)} {vs : List Value} {R : Nat → UInt64 → UInt64 → UInt64 → Prop} (h : ColsAre ext vs R) (hs : ∀ p ∈ ext, p ∈ news) : ColsAre news vs R := fun j hj => by
  obtain ⟨c, t1, t2, t3, r, g, b, e, hm, ok, hR⟩ := h j hj
  exact ⟨c, t1, t2, t3, r, g, b, e, hs _ hm, ok, hR⟩
theorem rdyR_of {ns : List Int} {i : Nat} (hi : i ≤ 8) {ext : List (Addr × Obj)} {vs : List Value} {col : Nat → Col} {hue : Nat → UInt64} (hcol : ∀ p, ColIs (col p) (divI (Wn ns p) 32) (hue p)) (h : ColsL ext vs (insAll (Wn ns) i) col) : RdyR ext vs (cntW (Wn ns) (insAll (Wn ns) i) i) (col i) := by
  have hl := h.1
  rw [insAll_len] at hl
  have hc := cnt_le (Wn ns) (insAll (Wn ns) i) i
  rw [insAll_len] at hc
  refine ⟨by omega, by omega, (hcol i).1, h.are (fun p hp => hp) (fun p => (hcol p).1) fun j p e => ?_⟩
  rw [(hcol i).2.1, (hcol p).2.1]
  exact ins_R (insAll_sorted _ _) (Wn_le ns) e
theorem rdyL_of {ns : List Int} {i : Nat} (hi : i ≤ 8) {ext : List (Addr × Obj)} {vs : List Value} {col : Nat → Col} {hue : Nat → UInt64} (hcol : ∀ p, ColIs (col p) (neg1 (divI (Wn ns p) 32)) (hue p)) (h : ColsL ext vs (insAll (Wn ns) i).reverse col) : RdyL ext vs (i - cntW (Wn ns) (insAll (Wn ns) i) i) (col i) := by
  have hl := h.1
  rw [List.length_reverse, insAll_len] at hl
  refine ⟨by omega, by omega, (hcol i).1, h.are (fun p hp => hp) (fun p => (hcol p).1) fun j p e => ?_⟩
  rw [(hcol i).2.1, (hcol p).2.1]
  have := ins_L (x := i) (insAll_sorted (Wn ns) i) (Wn_le ns) e
  rw [insAll_len] at this
  exact this
theorem colP_is (ns : List Int) (p : Nat) : ColIs (colP (res ns p)) (divI (Wn ns p) 32) (divI (Kn ns p) 16) := (res_ok (res_lt ns p)).2.2.1
theorem colT_is (ns : List Int) (p : Nat) : ColIs (colT (res ns p)) (divI (Wn ns p) 32) (divI (hueTn (res ns p)) 32) := (res_ok (res_lt ns p)).2.2.2.1
theorem colG_is (ns : List Int) (p : Nat) : ColIs (colG (res ns p)) (neg1 (divI (Wn ns p) 32)) (divI (hueGn (res ns p)) 16) := (res_ok (res_lt ns p)).2.2.2.2
section
variable {w : World} {mean : ExcName → Option Value} {mg mb : Str → Option Value} {dp un : Nat} {gd : Option (List Code)} {cn : Str} {cs : Scope} {a : Addr} {ccd : Value} {cl : List (Str × Addr)} {outer : List Env} {A₀ : Around} {base h₀ : Heap} {L : Addr} {m : Str → Option Value} {news : List (Addr × Obj)} {s : Shared} {Q E : Value → Shared → Prop}
 (B : Below A₀ base outer h₀) (F : Fr h₀ L s.heap m) (X : (Mine.hd.heap_1 w.params).In h₀) (N : News h₀ L s.heap news)
 (T : Top Mine.hd.view_1 (looseW Mine.hd.view_1 [Str.ofString "insort_right", Str.ofString "bisect_right", Str.ofString "insort_left", Str.ofString "bisect_left", Str.ofString "Whitespace"]) mean mg mb h₀) (hk : cs.kind = .function) (hd : dp + 4 < recursionLimit) (hu : un + 32 < cLine)
include B F X N T hk hd hu
theorem insR_c {ext : List (Addr × Obj)} {vs : List Value} {kk k : Nat} {al ca : Addr} {c : Col} {t1 t2 t3 : Tok} {news' : List (Addr × Obj)} (hl : (al, listO vs kk) ∈ news) (hR : RdyR ext vs k c) (hm : (ca, colO c t1 t2 t3) ∈ news) (hs : ∀ p ∈ ext, p ∈ news)
 (U : Upd al (listO vs kk) (listO (vs.take k ++ .ref ca :: vs.drop k) (kk + 1)) news news')
 (ret : ∀ h' tk', Fr h₀ L h' m → News h₀ L h' news' → Q .none {s with heap := h', toks := tk'})
 : wpAny (model PySem.Challenge.rw_sc0103_01.row.prog w) (ktrTop dp un gd cn cs L a ccd cl outer) (call (.ref 30) [.ref al, .ref ca] [(Str.ofString "key", .ref 158)]) Q E s :=
  insR B F X N T hk hd hu hl hm hR.ok (Nat.le_trans hR.hn (by decide)) hR.hk (cols_mono hR.at_ hs) U ret
theorem insL_c {ext : List (Addr × Obj)} {vs : List Value} {kk k : Nat} {al ca : Addr} {c : Col} {t1 t2 t3 : Tok} {news' : List (Addr × Obj)} (hl : (al, listO vs kk) ∈ news) (hR : RdyL ext vs k c) (hm : (ca, colO c t1 t2 t3) ∈ news) (hs : ∀ p ∈ ext, p ∈ news)
 (U : Upd al (listO vs kk) (listO (vs.take k ++ .ref ca :: vs.drop k) (kk + 1)) news news')
 (ret : ∀ h' tk', Fr h₀ L h' m → News h₀ L h' news' → Q .none {s with heap := h', toks := tk'})
 : wpAny (model PySem.Challenge.rw_sc0103_01.row.prog w) (ktrTop dp un gd cn cs L a ccd cl outer) (call (.ref 48) [.ref al, .ref ca] [(Str.ofString "key", .ref 158)]) Q E s :=
  insL B F X N T hk hd hu hl hm hR.ok (Nat.le_trans hR.hn (by decide)) hR.hk (cols_mono hR.at_ hs) U ret
theorem colP_c {r : Nat} (hr : r < 384) {tr tg tb : Tok}
 (ret : ∀ t t' t'' h' tk' a, Fr h₀ L h' m → News h₀ L h' ((a, colO (colP r) t t' t'') :: news) → (∀ p ∈ news, p.1 < a) → Q (.ref a) {s with heap := h', toks := tk'})
 : wpAny (model PySem.Challenge.rw_sc0103_01.row.prog w) (ktrTop dp un gd cn cs L a ccd cl outer) (call (.ref 78) [.float (hueR r) tr, .float (shR r) tg, .float (lvR r) tb]) Q E s :=
  have ok := (res_ok hr).1
  rgb_c B F X N T hk (by omega) (by omega) ok.1 ok.2.1 ok.2.2 ret
theorem colT_c {r : Nat} (hr : r < 384) {tr tg tb : Tok}
 (ret : ∀ t t' t'' h' tk' a, Fr h₀ L h' m → News h₀ L h' ((a, colO (colT r) t t' t'') :: news) → (∀ p ∈ news, p.1 < a) → Q (.ref a) {s with heap := h', toks := tk'})
 : wpAny (model PySem.Challenge.rw_sc0103_01.row.prog w) (ktrTop dp un gd cn cs L a ccd cl outer) (call (.ref 78) [.float (hueT r) tr, .float (shR r) tg, .float (lvR r) tb]) Q E s :=
  have ok := (res_ok hr).2.1
  rgb_c B F X N T hk (by omega) (by omega) ok.1 ok.2.1 ok.2.2 ret
end
end Mine

end PartPLoop
section PartPTurE
open PySem PySem.W PyProof.Rows PySem.Calls PySem.Spec
set_option maxRecDepth 100000
set_option maxHeartbeats 8000000
set_option linter.unusedSectionVars false
open PySem.Flt
namespace Mine

theorem ordL_snoc {ns : List Int} {ext ext' : List (Addr × Obj)} {vo : List Value} {o1 : Addr} {x1 x2 x3 : Tok} (h : OrdL ns ext vo) (hs : ∀ p ∈ ext, p ∈ ext') (hm : (o1, tup3 (Wn ns vo.length : Int) ((vo.length : Nat) : Int) (Kn ns vo.length : Int) x1 x2 x3) ∈ ext') : OrdL ns ext' (vo ++ [Value.ref o1]) := by
  intro j hj
  by_cases hlt : j < vo.length
  · obtain ⟨a, t, u, v, e, hm'⟩ := h j hlt
    exact ⟨a, t, u, v, by rw [List.getElem?_append_left hlt]; exact e, hs _ hm'⟩
  · have : j = vo.length := by simp at hj; omega
    subst this
    exact ⟨o1, x1, x2, x3, by rw [List.getElem?_append_right (Nat.le_refl _), Nat.sub_self]; rfl, hm⟩
theorem turn_end {h₀ h' : Heap} {L O P T0 G D0 It : Addr} {oI orr : Obj} {vd vo vp vt vg : List Value} {kd ko kp kt kg tk : Nat} {ns : List Int} {base ext : List (Addr × Obj)} {i : Nat} {g1 t1 p1 r1 o1 : Addr} {x1 x2 x3 y1 y2 y3 z1 z2 z3 w1 w2 w3 : Tok} {m₂ m₀ : Str → Option Value} {s₁ : Shared} {Q : Flow → Shared → Prop} {sto : List Str}
 (J : InvL ns base O P T0 G D0 i ⟨vo, vp, vt, vg, ko, kp, kt, kg, ext⟩) (off : ∀ p ∈ ledL O P T0 G D0 vd kd ⟨vo, vp, vt, vg, ko, kp, kt, kg, ext⟩, p.1 ≠ It)
 (F : Fr h₀ L h' m₂)
 (N : News h₀ L h' ((g1, colO (colG (res ns i)) x1 x2 x3) :: (t1, colO (colT (res ns i)) y1 y2 y3) :: (p1, colO (colP (res ns i)) z1 z2 z3) :: (r1, orr) :: (o1, tup3 (Wn ns i : Int) (0 + (i : Int)) (kq (res ns i) : Int) w1 w2 w3) :: (It, oI) :: (O, PySem.W.listOf (vo.toArray.push (.ref o1)) (ko + 1)) ::
   (P, listO (vp.take (cntW (Wn ns) (insAll (Wn ns) i) i) ++ .ref p1 :: vp.drop (cntW (Wn ns) (insAll (Wn ns) i) i)) (kp + 1)) :: (T0, listO (vt.take (cntW (Wn ns) (insAll (Wn ns) i) i) ++ .ref t1 :: vt.drop (cntW (Wn ns) (insAll (Wn ns) i) i)) (kt + 1)) ::
   (G, listO (vg.take (i - cntW (Wn ns) (insAll (Wn ns) i) i) ++ .ref g1 :: vg.drop (i - cntW (Wn ns) (insAll (Wn ns) i) i)) (kg + 1)) :: (D0, listO vd kd) :: ext))
 (l1 : @LT.lt Nat _ It g1 ∧ @LT.lt Nat _ O g1 ∧ @LT.lt Nat _ P g1 ∧ @LT.lt Nat _ T0 g1 ∧ @LT.lt Nat _ G g1) (l2 : @LT.lt Nat _ It t1 ∧ @LT.lt Nat _ O t1 ∧ @LT.lt Nat _ P t1 ∧ @LT.lt Nat _ T0 t1 ∧ @LT.lt Nat _ G t1) (l3 : @LT.lt Nat _ It p1 ∧ @LT.lt Nat _ O p1 ∧ @LT.lt Nat _ P p1 ∧ @LT.lt Nat _ T0 p1 ∧ @LT.lt Nat _ G p1) (l4 : @LT.lt Nat _ It r1 ∧ @LT.lt Nat _ O r1 ∧ @LT.lt Nat _ P r1 ∧ @LT.lt Nat _ T0 r1 ∧ @LT.lt Nat _ G r1) (l5 : @LT.lt Nat _ It o1 ∧ @LT.lt Nat _ O o1 ∧ @LT.lt Nat _ P o1 ∧ @LT.lt Nat _ T0 o1 ∧ @LT.lt Nat _ G o1)
 (hs : SameOff sto [] m₂ m₀) : TurnS (fun _ : LS => []) (ledL O P T0 G D0 vd kd) (InvL ns base O P T0 G D0 (i + 1)) sto m₀ h₀ L s₁ It oI Q .next { s₁ with heap := h', toks := tk } := by
  obtain ⟨lo, ord, cp, ct, cg, a1, a2, a3, a4, bs⟩ := J
  dsimp only at lo ord cp ct cg a1 a2 a3 a4 bs
  have hc := cnt_le (Wn ns) (insAll (Wn ns) i) i
  have hl := insAll_len (Wn ns) i
  have hw : PySem.W.listOf (vo.toArray.push (.ref o1)) (ko + 1) = listO (vo ++ [.ref o1]) (ko + 1) := by simp [PySem.W.listOf, listO]
  rw [hw, Int.zero_add] at N
  refine endS (c := ⟨vo ++ [.ref o1], vp.take (cntW (Wn ns) (insAll (Wn ns) i) i) ++ .ref p1 :: vp.drop (cntW (Wn ns) (insAll (Wn ns) i) i), vt.take (cntW (Wn ns) (insAll (Wn ns) i) i) ++ .ref t1 :: vt.drop (cntW (Wn ns) (insAll (Wn ns) i) i), vg.take (i - cntW (Wn ns) (insAll (Wn ns) i) i) ++ .ref g1 :: vg.drop (i - cntW (Wn ns) (insAll (Wn ns) i) i), ko + 1, kp + 1, kt + 1, kg + 1,
    (g1, colO (colG (res ns i)) x1 x2 x3) :: (t1, colO (colT (res ns i)) y1 y2 y3) :: (p1, colO (colP (res ns i)) z1 z2 z3) :: (r1, orr) :: (o1, tup3 (Wn ns i : Int) (i : Int) (kq (res ns i) : Int) w1 w2 w3) :: ext⟩) F (fun p hp => nomatch hp) hs ?_ ?_ ?_
  · intro p hp
    refine N p ?_
    simp only [ledL, List.mem_cons] at hp
    rcases hp with rfl | rfl | rfl | rfl | rfl | rfl | rfl | rfl | rfl | rfl | rfl | h <;> (repeat (first | exact h | exact List.mem_cons_self | refine List.mem_cons_of_mem _ ?_))
  · intro p hp
    simp only [ledL, List.mem_cons] at hp
    have e1 := off (O, listO vo ko) (by simp [ledL])
    have e2 := off (P, listO vp kp) (by simp [ledL])
    have e3 := off (T0, listO vt kt) (by simp [ledL])
    have e4 := off (G, listO vg kg) (by simp [ledL])
    have e5 := off (D0, listO vd kd) (by simp [ledL])
    rcases hp with h | h | h | h | h | h | h | h | h | h | h <;> first
      | (subst h; first | exact e1 | exact e2 | exact e3 | exact e4 | exact e5)
      | (subst h; first | exact Nat.ne_of_gt l1.1 | exact Nat.ne_of_gt l2.1 | exact Nat.ne_of_gt l3.1 | exact Nat.ne_of_gt l4.1 | exact Nat.ne_of_gt l5.1)
      | exact off p (by simp [ledL, h])
  · have e : ∀ p ∈ ext, p ∈ (g1, colO (colG (res ns i)) x1 x2 x3) :: (t1, colO (colT (res ns i)) y1 y2 y3) :: (p1, colO (colP (res ns i)) z1 z2 z3) :: (r1, orr) :: (o1, tup3 (Wn ns i : Int) (i : Int) (kq (res ns i) : Int) w1 w2 w3) :: ext := fun p hp => by simp [hp]
    have ne : ∀ (X : Addr), (X < g1 ∧ X < t1 ∧ X < p1 ∧ X < r1 ∧ X < o1) → (∀ p ∈ ext, p.1 ≠ X) → ∀ p ∈ (g1, colO (colG (res ns i)) x1 x2 x3) :: (t1, colO (colT (res ns i)) y1 y2 y3) :: (p1, colO (colP (res ns i)) z1 z2 z3) :: (r1, orr) :: (o1, tup3 (Wn ns i : Int) (i : Int) (kq (res ns i) : Int) w1 w2 w3) :: ext, p.1 ≠ X := by
      intro X hX ha p hp
      simp only [List.mem_cons] at hp
      rcases hp with h | h | h | h | h | h <;> first
        | (subst h; first | exact Nat.ne_of_gt hX.1 | exact Nat.ne_of_gt hX.2.1 | exact Nat.ne_of_gt hX.2.2.1 | exact Nat.ne_of_gt hX.2.2.2.1 | exact Nat.ne_of_gt hX.2.2.2.2)
        | exact ha p h
    refine ⟨by simp [lo], ?_, ?_, ?_, ?_, ne _ ⟨l1.2.1, l2.2.1, l3.2.1, l4.2.1, l5.2.1⟩ a1, ne _ ⟨l1.2.2.1, l2.2.2.1, l3.2.2.1, l4.2.2.1, l5.2.2.1⟩ a2, ne _ ⟨l1.2.2.2.1, l2.2.2.2.1, l3.2.2.2.1, l4.2.2.2.1, l5.2.2.2.1⟩ a3, ne _ ⟨l1.2.2.2.2, l2.2.2.2.2, l3.2.2.2.2, l4.2.2.2.2, l5.2.2.2.2⟩ a4, fun p hp => e p (bs p hp)⟩
    · exact ordL_snoc (x1 := w1) (x2 := w2) (x3 := w3) ord e (by rw [lo]; simp [Kn])
    · exact (cp.mono e).ins (p := i) (a := p1) (t1 := z1) (t2 := z2) (t3 := z3) (by omega) (by simp)
    · exact (ct.mono e).ins (p := i) (a := t1) (t1 := y1) (t2 := y2) (t3 := y3) (by omega) (by simp)
    · have := (cg.mono e).ins (i := i - cntW (Wn ns) (insAll (Wn ns) i) i) (p := i) (by simp; omega) (a := g1) (t1 := x1) (t2 := x2) (t3 := x3) (by simp)
      have r := rev_ins (Wn ns) (insAll (Wn ns) i) i
      rw [hl] at r
      rw [r] at this
      exact this
end Mine

end PartPTurE
section PartPLwR
open PySem PySem.W PyProof.Rows PySem.Calls PySem.Spec
set_option maxRecDepth 100000
set_option maxHeartbeats 8000000
set_option linter.unusedSectionVars false
open PySem.Flt
namespace Mine
open PyProof.Rows.LCg (NsObj lst lst_snoc ns_obj)
-- the sorted order
noncomputable def OrdS (ns : List Int) (ext : List (Addr × Obj)) (vs : List Value) (l : List Nat) : Prop :=
  vs.length = l.length ∧ ∀ (j p : Nat), l[j]? = some p → ∃ (a : Addr) (t u v : Tok), vs[j]? = some (Value.ref a) ∧ (a, tup3 (Wn ns p : Int) (p : Int) (Kn ns p : Int) t u v) ∈ ext
theorem OrdS.of {ns : List Int} {ext : List (Addr × Obj)} {vo : List Value} (h : OrdL ns ext vo) {l : List Nat} (hl : ∀ p ∈ l, p < vo.length) : OrdS ns ext (l.map fun i => vo.getD i Value.none) l := by
  refine ⟨by simp, fun j p e => ?_⟩
  obtain ⟨a, t, u, v, e1, e2⟩ := h p (hl p (List.mem_of_getElem? e))
  refine ⟨a, t, u, v, ?_, e2⟩
  rw [List.getElem?_map, e]
  simp [List.getD_eq_getElem?_getD, e1]
theorem OrdS.rev {ns : List Int} {ext : List (Addr × Obj)} {vs : List Value} {l : List Nat} (h : OrdS ns ext vs l) : OrdS ns ext vs.reverse l.reverse := by
  refine ⟨by simp [h.1], fun j p e => ?_⟩
  have hj : j < l.length := by rcases List.getElem?_eq_some_iff.mp e with ⟨q, _⟩; simpa using q
  rw [List.getElem?_reverse hj] at e
  obtain ⟨a, t, u, v, e1, e2⟩ := h.2 _ p e
  exact ⟨a, t, u, v, by rw [List.getElem?_reverse (by rw [h.1]; exact hj), h.1]; exact e1, e2⟩
noncomputable def TT (ns : List Int) (ext : List (Addr × Obj)) (v x y z : Value) : Prop := ∃ (a : Addr) (p : Nat) (t u w : Tok), v = Value.ref a ∧ (a, tup3 (Wn ns p : Int) (p : Int) (Kn ns p : Int) t u w) ∈ ext ∧ x = Value.int (Wn ns p : Int) t ∧ y = Value.int (p : Int) u ∧ z = Value.int (Kn ns p : Int) w
theorem ord_ht {ns : List Int} {ext news : List (Addr × Obj)} {vs : List Value} {l : List Nat} (h : OrdS ns ext vs l) (hs : ∀ p ∈ ext, p ∈ news) : ∀ v ∈ vs, ∃ t x y z, v = Value.ref t ∧ (t, ({ cls := .type "tuple", data := .seq #[x, y, z] } : Obj)) ∈ news ∧ TT ns ext v x y z := by
  intro v hv
  obtain ⟨j, hj⟩ := List.mem_iff_getElem?.mp hv
  have hlt : j < l.length := by rcases List.getElem?_eq_some_iff.mp hj with ⟨q, _⟩; rw [← h.1]; exact q
  obtain ⟨a, t, u, w, e1, e2⟩ := h.2 j _ (List.getElem?_eq_getElem hlt)
  rw [hj] at e1
  cases e1
  exact ⟨a, _, _, _, rfl, hs _ e2, a, l[j], t, u, w, rfl, e2, rfl, rfl, rfl⟩
theorem ord_turn {ns : List Int} {ext news : List (Addr × Obj)} {vs : List Value} {l : List Nat} {h₀ h : Heap} {L : Addr} (N : News h₀ L h news) (hs : ∀ p ∈ ext, p ∈ news) (H : OrdS ns ext vs l) {j : Nat} {v x y z : Value} (hj : vs[j]? = some v) (hT : TT ns ext v x y z) :
    ∃ (p : Nat) (t u w : Tok), l[j]? = some p ∧ x = Value.int (Wn ns p : Int) t ∧ y = Value.int (p : Int) u ∧ z = Value.int (Kn ns p : Int) w := by
  have hlt : j < l.length := by rcases List.getElem?_eq_some_iff.mp hj with ⟨q, _⟩; rw [← H.1]; exact q
  obtain ⟨a, t, u, w, e1, e2⟩ := H.2 j _ (List.getElem?_eq_getElem hlt)
  rw [hj] at e1
  cases e1
  obtain ⟨a', p, t', u', w', e, hm, rfl, rfl, rfl⟩ := hT
  cases e
  have q1 := (N _ (hs _ e2)).1
  have q2 := (N _ (hs _ hm)).1
  have q := q1.symm.trans q2
  simp only [tup3, Option.some.injEq, Obj.mk.injEq, Data.seq.injEq, Array.mk.injEq, List.cons.injEq, Value.int.injEq, Int.ofNat_inj, and_true, true_and] at q
  have hp : l[j] = p := q.2.1.1
  exact ⟨p, t', u', w', by rw [List.getElem?_eq_getElem hlt, hp], rfl, rfl, rfl⟩
-- texts
noncomputable def bitK (ns : List Int) (p : Nat) : Bool := decide (Kn ns p / 4 % 2 = 1)
theorem item_a {b : Nat} (h : b < 2) : Txt.item (Str.ofString " \t") (b : Int) = tx [decide (b = 1)] := by
  have : b = 0 ∨ b = 1 := by omega
  rcases this with rfl | rfl <;> decide +kernel
theorem item_b {b : Nat} (h : b < 2) : Txt.item (Str.ofString "\t ") (b : Int) = tx [!decide (b = 1)] := by
  have : b = 0 ∨ b = 1 := by omega
  rcases this with rfl | rfl <;> decide +kernel
theorem k_bit (k : Nat) : ((k : Int).fdiv 4).fmod 2 = ((k / 4 % 2 : Nat) : Int) := by
  rw [Int.fdiv_eq_ediv_of_nonneg _ (by decide), Int.fmod_eq_emod_of_nonneg _ (by decide)]
  omega
theorem k_two (k : Nat) : (2 : Int) * (k : Int) = ((2 * k : Nat) : Int) := by omega
theorem k_two9 (k : Nat) : ((2 * k : Nat) : Int) + 9 = ((2 * k + 9 : Nat) : Int) := by omega
theorem k_mod32 (k : Nat) : (((2 * k + 9 : Nat)) : Int).fmod 32 = (((2 * k + 9) % 32 : Nat) : Int) := by rw [Int.fmod_eq_emod_of_nonneg _ (by decide)]; omega
theorem k_add8 (k : Nat) : (k : Int) + 8 = ((k + 8 : Nat) : Int) := by omega
theorem k_mod16 (k : Nat) : (((k + 8 : Nat)) : Int).fmod 16 = (((k + 8) % 16 : Nat) : Int) := by rw [Int.fmod_eq_emod_of_nonneg _ (by decide)]; omega
theorem rev_pick (vs : List Value) : slicePick vs.toArray none none (some (-1)) = vs.reverse.toArray := by rw [krv_pick]
-- lists of floats
noncomputable def FltsT (ys : List Value) (l : List Nat) (f : Nat → UInt64) : Prop := ys.length = l.length ∧ ∀ (j p : Nat), l[j]? = some p → ∃ t : Tok, ys[j]? = some (Value.float (f p) t) ∧ 1 ≤ t
theorem got_flts {vs ys : List Value} {l : List Nat} {f : Nat → UInt64} (hl : vs.length = l.length) (got : Got vs ys fun j y => ∃ (p : Nat) (t : Tok), l[j]? = some p ∧ y = Value.float (f p) t ∧ 1 ≤ t) : FltsT ys l f := by
  refine ⟨by rw [got.1, hl], fun j p e => ?_⟩
  have hj : j < l.length := by rcases List.getElem?_eq_some_iff.mp e with ⟨q, _⟩; exact q
  obtain ⟨y, e1, p', t, e2, rfl, ht⟩ := got.2 j (by rw [hl]; exact hj)
  rw [e] at e2
  cases e2
  exact ⟨t, e1, ht⟩
section
variable {prog : Program} {w : World} {A : Around} {E : Value → Shared → Prop} {s : Shared}
theorem eqB_flt {w₀ : World} {x : UInt64} {t u : Tok} {h₀ : Heap} {L : Addr} {m : Str → Option Value} {Q : Bool → Shared → Prop} (F' : Fr h₀ L s.heap m) (X : (Mine.hd.heap_1 w₀.params).In h₀) (hx : (Float64.cmp x x == some .eq) = true) (ht : 1 ≤ t) (hu : 1 ≤ u) (h : Q true s) : wpAny (model prog w) A (eqBool (.float x t) (.float x u)) Q E s := by
  have rc : wpAny (model prog w) A (richCompare .Eq (.float x t) (.float x u) >>= truthOfDropped) Q E s :=
    wpAny_bind (PySem.richCompare_gives (typeIs_float s x t) (typeIs_float s x u) PySem.F.slot_float_eq PySem.F.entry_float_eq (PySem.F.args_float_eq_2 _ _) (AutoFloatG5.float___eq___float_float_0 x t x u) (by simp [Made.takes]) (wpAny_truthy_bool (by have e : (fun x => x == some Ordering.eq) (Float64.cmp x x) = true := hx; rw [e]; exact h)))
  have X' : (Mine.hd.heap_1 w₀.params).In s.heap := Frag.In.keeps X F'.keep
  have look : ∀ (k : Tok) (R : Bool → Shared → Prop), R false s → wpAny (model prog w) A (sharingNotTold k) R E s := by
    intro k R hR
    unfold sharingNotTold
    refine wpAny_bind ((looks_nsIn (M := model prog w) X' (r := none) (by rfl)).at ?_)
    exact wpAny_pure hR
  have same : ∀ (b : Bool) (R : Bool → Shared → Prop), (∀ b, R b s) → wpAny (model prog w) A (isSame.created b t u) R E s := by
    intro b R hR
    unfold isSame.created
    refine wpAny_ite ?_
    have a1 : t ≠ 0 := Nat.pos_iff_ne_zero.mp ht
    have a2 : u ≠ 0 := Nat.pos_iff_ne_zero.mp hu
    rw [if_neg (by simp [a1, a2])]
    refine wpAny_ite ?_
    split
    · exact wpAny_pure (hR _)
    refine wpAny_ite ?_
    split
    · exact wpAny_pure (hR _)
    refine wpAny_bind (look _ _ ?_)
    first | rw [if_neg Bool.false_ne_true] | simp only [Bool.false_eq_true, if_false]
    refine wpAny_bind (look _ _ ?_)
    first | rw [if_neg Bool.false_ne_true] | simp only [Bool.false_eq_true, if_false]
    exact wpAny_bind (wpAny_rule (wpAny_bind (wpAny_askSetting (wpAny_pure (hR _)))))
  unfold eqBool
  refine wpAny_holding ?_
  refine wpAny_ite_split (fun hab => ?_) (fun hab => ?_)
  · exact wpAny_bind (wpAny_rule (wpAny_pure h))
  · refine wpAny_bind (m := isSame (.float x t) (.float x u)) (same _ _ fun b => ?_)
    cases b with
    | true => exact wpAny_pure h
    | false => exact rc
theorem ne_flts {l b : Addr} {vs us : List Value} {k1 k2 : Nat} {h₀ : Heap} {L : Addr} {m : Str → Option Value} {news : List (Addr × Obj)} {ll : List Nat} {f : Nat → UInt64} {Q : Value → Shared → Prop} (F' : Fr h₀ L s.heap m) (X : (Mine.hd.heap_1 w.params).In h₀) (N : News h₀ L s.heap news)
    (h1 : (l, listO vs k1) ∈ news) (h2 : (b, listO us k2) ∈ news) (v1 : FltsT vs ll f) (v2 : FltsT us ll f) (hf : ∀ p ∈ ll, (Float64.cmp (f p) (f p) == some .eq) = true) (hu : A.units < cLine) (h : Q (.bool false) s) : wpAny (model prog w) A (compareOp .NotEq (.ref l) (.ref b)) Q E s := by
  have hl : s.heap.IsList l vs.toArray := ⟨_, (N _ h1).1, rfl, _, rfl⟩
  have hb : s.heap.IsList b us.toArray := ⟨_, (N _ h2).1, rfl, _, rfl⟩
  have hsz : vs.toArray.size = us.toArray.size := by simp [v1.1, v2.1]
  refine SeqAt.RcNeAt.lists (e := fun _ => true) hl hb hsz hu (fun j j1 j2 => ?_) prog w E Q ?_
  · intro prog' w' E' Q' hq
    have hj : j < ll.length := by rw [← v1.1]; simpa using j1
    obtain ⟨t, e1, t1⟩ := v1.2 j _ (List.getElem?_eq_getElem hj)
    obtain ⟨u, e2, u1⟩ := v2.2 j _ (List.getElem?_eq_getElem hj)
    have g1 : vs.toArray[j] = .float (f ll[j]) t := by
      have := List.getElem?_eq_some_iff.mp e1
      obtain ⟨_, q⟩ := this
      simpa using q
    have g2 : us.toArray[j] = .float (f ll[j]) u := by
      have := List.getElem?_eq_some_iff.mp e2
      obtain ⟨_, q⟩ := this
      simpa using q
    rw [g1, g2]
    exact eqB_flt F' X (hf _ (List.getElem_mem hj)) t1 u1 hq
  · have : (List.range vs.toArray.size).all (fun _ => true) = true := by simp
    rw [this]
    exact h
end
end Mine

end PartPLwR
section PartPLwS
open PySem PySem.W PyProof.Rows PySem.Calls PySem.Spec
set_option maxRecDepth 100000
set_option maxHeartbeats 8000000
set_option linter.unusedSectionVars false
open PySem.Flt
namespace Mine
open PyProof.Rows.LCg (NsObj lst lst_snoc ns_obj)
noncomputable def SignF (f : Nat → UInt64) (b : Nat → Bool) : Prop := ∀ p, ∃ i, i ≤ 3 ∧ HueAt (f p) i ∧ b p = decide (i % 2 = 1)
noncomputable def SelfF (f : Nat → UInt64) : Prop := ∀ p, (Float64.cmp (f p) (f p) == some .eq) = true
noncomputable def RH (l : List Nat) (f : Nat → UInt64) (j : Nat) (r g b : UInt64) : Prop := ∃ p, l[j]? = some p ∧ hsvH r g b = f p
noncomputable abbrev fP (ns : List Int) (p : Nat) : UInt64 := divI (Kn ns p : Int) 16
noncomputable abbrev fT (ns : List Int) (p : Nat) : UInt64 := divI (((2 * Kn ns p + 9) % 32 : Nat) : Int) 32
noncomputable abbrev fG (ns : List Int) (p : Nat) : UInt64 := divI (((Kn ns p + 8) % 16 : Nat) : Int) 16
theorem h16 : ∀ k < 16, ((Float64.cmp (divI (k : Nat) 16) q1 == some .lt) = decide (k / 4 ≤ 0) ∧ (Float64.cmp (divI (k : Nat) 16) q2 == some .lt) = decide (k / 4 ≤ 1) ∧ (Float64.cmp (divI (k : Nat) 16) q3 == some .lt) = decide (k / 4 ≤ 2)) ∧ (Float64.cmp (divI (k : Nat) 16) (divI (k : Nat) 16) == some .eq) = true := by decide +kernel
theorem h32 : ∀ k < 32, ((Float64.cmp (divI (k : Nat) 32) q1 == some .lt) = decide (k / 8 ≤ 0) ∧ (Float64.cmp (divI (k : Nat) 32) q2 == some .lt) = decide (k / 8 ≤ 1) ∧ (Float64.cmp (divI (k : Nat) 32) q3 == some .lt) = decide (k / 8 ≤ 2)) ∧ (Float64.cmp (divI (k : Nat) 32) (divI (k : Nat) 32) == some .eq) = true := by decide +kernel
theorem Kn_lt (ns : List Int) (p : Nat) : Kn ns p < 16 := kq_lt _
theorem signP (ns : List Int) : SignF (fP ns) (bitK ns) := fun p => ⟨Kn ns p / 4, by have := Kn_lt ns p; omega, (h16 _ (Kn_lt ns p)).1, rfl⟩
theorem signT (ns : List Int) : SignF (fT ns) (fun p => !bitK ns p) := fun p => by
  have h := Kn_lt ns p
  refine ⟨(2 * Kn ns p + 9) % 32 / 8, by omega, (h32 _ (Nat.mod_lt _ (by decide))).1, ?_⟩
  unfold bitK
  have key : ∀ k < 16, (!decide (k / 4 % 2 = 1)) = decide ((2 * k + 9) % 32 / 8 % 2 = 1) := by decide
  exact key _ h
theorem signG (ns : List Int) : SignF (fG ns) (bitK ns) := fun p => by
  have h := Kn_lt ns p
  refine ⟨(Kn ns p + 8) % 16 / 4, by omega, (h16 _ (Nat.mod_lt _ (by decide))).1, ?_⟩
  unfold bitK
  have key : ∀ k < 16, (decide (k / 4 % 2 = 1)) = decide ((k + 8) % 16 / 4 % 2 = 1) := by decide
  exact key _ h
theorem selfP (ns : List Int) : SelfF (fP ns) := fun p => (h16 _ (Kn_lt ns p)).2
theorem selfT (ns : List Int) : SelfF (fT ns) := fun _ => (h32 _ (Nat.mod_lt _ (by decide))).2
theorem selfG (ns : List Int) : SelfF (fG ns) := fun _ => (h16 _ (Nat.mod_lt _ (by decide))).2
theorem signs_of {ys : List Value} {l : List Nat} {f : Nat → UInt64} {b : Nat → Bool} (h : FltsT ys l f) (hs : SignF f b) : FltsAre ys fun j x => ∃ i, i ≤ 3 ∧ HueAt x i ∧ (l.map b)[j]? = some (decide (i % 2 = 1)) := by
  intro j hj
  have hj' : j < l.length := by rw [← h.1]; exact hj
  have e : l[j]? = some l[j] := List.getElem?_eq_getElem hj'
  obtain ⟨t, e1, _⟩ := h.2 j _ e
  obtain ⟨i, h1, h2, h3⟩ := hs l[j]
  exact ⟨t, _, e1, i, h1, h2, by rw [List.getElem?_map, e, ← h3]; rfl⟩
theorem hues_of {vs ys : List Value} {l : List Nat} {f : Nat → UInt64} {n : Nat} (hn : @LE.le Nat _ 1 n) (hl : vs.length = l.length) (got : Got vs ys fun j y => ∃ (t : Tok) (r g b : UInt64), y = Value.float (hsvH r g b) t ∧ n ≤ t ∧ RH l f j r g b) : FltsT ys l f := by
  refine ⟨by rw [got.1, hl], fun j p e => ?_⟩
  have hj : j < l.length := by rcases List.getElem?_eq_some_iff.mp e with ⟨q, _⟩; exact q
  obtain ⟨y, e1, t, r, g, b, rfl, ht, p', e2, e3⟩ := got.2 j (by rw [hl]; exact hj)
  rw [e] at e2
  cases e2
  exact ⟨t, by rw [e1, e3], Nat.le_trans hn ht⟩
theorem colsRH {ns : List Int} {ext : List (Addr × Obj)} {vs : List Value} {l : List Nat} {col : Nat → Col} {lt f : Nat → UInt64} (h : ColsL ext vs l col) (hc : ∀ p, ColIs (col p) (lt p) (f p)) : ColsAre ext vs (RH l f) :=
  h.are (fun _ hp => hp) (fun p => (hc p).1) fun j p e => ⟨p, e, (hc p).2.2⟩
theorem rev_texts : ∀ bs ∈ texts, Txt.sliceBy (tx bs) none none (-1, 0) = tx bs.reverse := by decide +kernel
theorem fr_over {h₀ h : Heap} {L : Addr} {m : Str → Option Value} {x : Str} {v : Value} (F : Fr h₀ L h m) (e : m x = some v) : Fr h₀ L h (fun y => if y = x then some v else m y) := by
  have : (fun y => if y = x then some v else m y) = m := by
    funext y
    split
    · rename_i q; rw [q, e]
    · rfl
  rw [this]; exact F
section
variable {prog : Program} {w : World} {A : Around} {E : Value → Shared → Prop} {s : Shared} {h₀ : Heap} {L : Addr} {m : Str → Option Value} {news : List (Addr × Obj)}
theorem rev_tx {value slice : PySem.Expr} {l : List Nat} {b : Nat → Bool} {t uk : Tok} {Q : Value → Shared → Prop} (F' : Fr h₀ L s.heap m) (N : News h₀ L s.heap news) (h4 : 4 ≤ l.length) (h6 : l.length ≤ 6)
    (h : ∀ h' t' c, Fr h₀ L h' m → News h₀ L h' news → Q (.str (tx (l.reverse.map b)) t') { s with heap := h', toks := c })
    (hs : subscripted slice false (.str (tx (l.map b)) t) (.ref s.heap.objs.size) = operate [.ref s.heap.objs.size, .str (tx (l.map b)) t] (getItem (.str (tx (l.map b)) t) (.ref s.heap.objs.size)) := by with_unfolding_all rfl)
    (ht : ∀ r, letTemporaryGo value (.str (tx (l.map b)) t) r = pure () := by intro _; with_unfolding_all rfl) :
    wpAny (model prog w) A (subscriptTail value slice (.str (tx (l.map b)) t) (.ref s.heap.objs.size)) Q E { s with heap := s.heap.push { cls := .type "slice", data := .fields #[.none, .none, .int (-1) uk] } } := by
  have e := rev_texts (l.map b) (mem_texts (by rw [List.length_map]; exact h4) (by rw [List.length_map]; exact h6))
  have e' : Txt.sliceBy (tx (l.map b)) none none (-1, uk) = tx (l.reverse.map b) := by
    rw [List.map_reverse]; exact e
  refine slice_strK_nn F' N (by decide) (fun h' t' c F2 N2 => ?_) hs ht (by rw [tx_len, List.length_map, PySem.sizeLine_eq]; omega)
  rw [e']; exact h h' t' c F2 N2
theorem ne_str_same {x : Str} {t u : Tok} {Q : Value → Shared → Prop} (h : Q (.bool false) s) : wpAny (model prog w) A (compareOp .NotEq (.str x t) (.str x u)) Q E s := by
  refine PySem.P.ne_str ?_
  simpa using h
end
end Mine

end PartPLwS
section PartPForT
open PySem PySem.W PyProof.Rows PySem.Calls PySem.Spec
set_option maxRecDepth 100000
set_option maxHeartbeats 8000000
set_option linter.unusedSectionVars false
namespace Mine
section
variable {prog : Program} {w : World} {A : Around} {E : Value → Shared → Prop} {s : Shared} {h₀ : Heap} {env : Env} {Q : Flow → Shared → Prop}
theorem lotgT {M : Model} {target : Expr} {I ax : Addr} {i : Nat} {v : Value} {Q : Unit → Shared → Prop} (hI : s.heap.IsTupleIter I ax i) (h : Q () s) : wpAny M A (letOwnedTupleGo target (.ref I) v) Q E s := by
  obtain ⟨o, ho, hc, hd⟩ := hI
  have go : wpAny M A (match (Value.ref I), v with
    | .ref r, .ref a => (load r >>= fun o => match o.cls, o.data with
      | .type n, .fields vs => if (["enumerate", "zip", "dict_itemiterator", "dict_reverseitemiterator", "odict_iterator", "itertools.zip_longest", "itertools.pairwise"].contains n && vs[0]? == some (rawInt a)) = true then (rule "for.unpacks-the-owned-tuple" >>= fun _ => updateField r 0 .none) else pure ()
      | _, _ => pure ())
    | _, _ => pure ()) Q E s := by
    cases v <;> first
      | exact wpAny_pure h
      | skip
    refine wpAny_bind (wpAny_load ho ?_)
    rw [hc, hd]
    exact wpAny_pure h
  cases target <;> first
    | exact wpAny_pure h
    | (cases v <;> first | exact wpAny_pure h | exact go)
noncomputable def ForGoT (prog : Program) (w : World) (A : Around) (env : Env) (target : Expr) (body : List Stmt) (Q : Flow → Shared → Prop) (E : Value → Shared → Prop) (xv : Value) (s₁ : Shared) : Prop :=
  wpAny (model prog w) A (pyIter xv) (fun it s₂ => codeAny (model prog w) A (.forLoop target it body [] env) (fun r s' => match r with | .ok f => Q f s' | .error e => cameBackBy (model prog w) A env E e s') s₂) E s₁
theorem for_enterT {target : Expr} {pos : Pos} {iter : Expr} {body : List Stmt} (hs : ∀ x, foldedSetIterable iter env x = pure x) (h : wpAny (model prog w) A (eval iter env) (ForGoT prog w A env target body Q E) E s) :
    wpAny (model prog w) A (exec (.For target iter body [] pos) env) Q E s := wpAny_For h hs
noncomputable def RowEnd (h₀ : Heap) (L : Addr) (s₁ : Shared) (It : Addr) (oI : Obj) (led : List (Addr × Obj)) (sto : List Str) (m₀ : Str → Option Value) (Q : Flow → Shared → Prop) (f : Flow) (s₂ : Shared) : Prop :=
  match f with
  | .ret v => Q (.ret v) s₂
  | .brk => Q .next s₂
  | _ => ∃ h' tk m₂, s₂ = { s₁ with heap := h', toks := tk } ∧ Fr h₀ L h' m₂ ∧ News h₀ L h' ((It, oI) :: led) ∧ SameOff sto [] m₂ m₀
noncomputable def AsgF (prog : Program) (w : World) (A : Around) (h₀ : Heap) (env : Env) (target : Expr) (led : List (Addr × Obj)) (vs : List Value) (As : Value → (Str → Option Value) → (Str → Option Value) → Prop) : Prop :=
  ∀ (v : Value) (m₁ : Str → Option Value) (nw : List (Addr × Obj)) (s : Shared) (Q : Unit → Shared → Prop) (E : Value → Shared → Prop), v ∈ vs → (∀ p ∈ led, p ∈ nw) → Fr h₀ env.locals s.heap m₁ → News h₀ env.locals s.heap nw →
    (∀ h' tk' m₂, Fr h₀ env.locals h' m₂ → News h₀ env.locals h' nw → As v m₁ m₂ → Q () { s with heap := h', toks := tk' }) → wpAny (model prog w) A (assign target env v) Q E s
theorem for_tup {target : Expr} {body : List Stmt} {vs : List Value} {kk : Nat} {ax : Addr} {led : List (Addr × Obj)} {sto : List Str} {m₀ : Str → Option Value} {As : Value → (Str → Option Value) → (Str → Option Value) → Prop}
    (hh : A.handled = none) (hE : PassesOwn (model prog w) A env E) (F : Fr h₀ env.locals s.heap m₀) (N : News h₀ env.locals s.heap led) (hm : (ax, ({ cls := .type "tuple", data := .seq vs.toArray kk } : Obj)) ∈ led)
    (hasg : AsgF prog w A h₀ env target led vs As) (hoff : ∀ v m₁ m₂, As v m₁ m₂ → SameOff sto [] m₁ m₀ → SameOff sto [] m₂ m₀)
    (step : ∀ (v : Value) (m₁ m₂ : Str → Option Value) (It : Addr) (oI : Obj) (h : Heap) (tk : Nat), v ∈ vs → SameOff sto [] m₁ m₀ → As v m₁ m₂ → (∀ p ∈ led, p.1 ≠ It) → Fr h₀ env.locals h m₂ → News h₀ env.locals h ((It, oI) :: led) → s.toks ≤ tk →
      wpAny (model prog w) A (execs body env) (RowEnd h₀ env.locals { s with heap := h, toks := tk } It oI led sto m₀ Q) E { s with heap := h, toks := tk })
    (fin : ∀ (h : Heap) (tk : Nat) (m' : Str → Option Value), Fr h₀ env.locals h m' → News h₀ env.locals h led → SameOff sto [] m' m₀ → s.toks ≤ tk → Q .next { s with heap := h, toks := tk }) : ForGoT prog w A env target body Q E (.ref ax) s := by
  have hl : s.heap.IsTuple ax vs.toArray := ⟨_, (N _ hm).1, rfl, _, rfl⟩
  have hlt : ax < s.heap.objs.size := Heap.lt_size (N _ hm).1
  refine wpAny_pyIter_tuple hl ?_
  have up : ∀ b o, s.heap.get? b = some o → (s.heap.push { cls := .type "tuple_iterator", data := .fields #[.ref ax, .int 0 0] }).get? b = some o := fun b o e => Heap.get?_push_of_some _ e
  have hI₀ : h₀.get? s.heap.objs.size = none := by
    cases e : h₀.get? s.heap.objs.size with
    | none => rfl
    | some o => exact absurd (Heap.lt_size (F.keep _ _ e)) (Nat.lt_irrefl _)
  have off : ∀ p ∈ led, p.1 ≠ s.heap.objs.size := fun p hp => Nat.ne_of_lt (Heap.lt_size (N p hp).1)
  have hIL : env.locals ≠ s.heap.objs.size := Nat.ne_of_lt F.ns.lt
  have hit : (s.heap.push { cls := .type "tuple_iterator", data := .fields #[.ref ax, .int 0 0] }).IsTupleIter s.heap.objs.size ax 0 := ⟨_, Heap.get?_push_size _ rfl, rfl, rfl⟩
  generalize s.heap.objs.size = I at *
  have W := Walks.tuple (prog := prog) (w := w) hh I ax (Nat.ne_of_lt hlt) vs.toArray
  rw [List.size_toArray] at W
  refine codeAny_forLoop_any (fun k s' => ∃ h' tk i m', s' = { s with heap := h', toks := tk } ∧ s.toks ≤ tk ∧ i ≤ vs.length ∧ k = vs.length + 1 - i ∧ h'.IsTupleIter I ax i ∧ Fr h₀ env.locals h' m' ∧ News h₀ env.locals h' led ∧ SameOff sto [] m' m₀) ?_ (vs.length + 1)
    ⟨_, s.toks, 0, m₀, rfl, Nat.le_refl _, Nat.zero_le _, rfl, hit, F.keeps up, N.grown up, fun _ _ _ => rfl⟩
  rintro k s' ⟨h', tk, i, m', rfl, htk, hi, rfl, hit', F', N', so⟩
  have hl' : h'.IsTuple ax vs.toArray := ⟨_, (N' _ hm).1, rfl, _, rfl⟩
  by_cases hlt' : i < vs.length
  · refine wpAny_toks s.toks htk (W.item i _ _ _ hlt' ⟨hit', hl'⟩ fun v h₁ tk₁ hP hst₁ hk₁ htk₁ => ?_)
    have k1 : ∀ b o, b ≠ I → h'.get? b = some o → h₁.get? b = some o := fun b o hb e => hk₁ b o (by simpa using hb) e
    have F₁ : Fr h₀ env.locals h₁ m' := ⟨F'.ns.at' fun o e => k1 _ o hIL e, fun b o e => k1 b o (fun q => by rw [q, hI₀] at e; cases e) (F'.keep b o e), F'.above⟩
    obtain ⟨oI, eI, cI, dI⟩ := hst₁.1
    have N₁ : News h₀ env.locals h₁ ((I, oI) :: led) := fun p hp => by
      rcases List.mem_cons.mp hp with rfl | hp
      · exact ⟨eI, Ne.symm hIL, hI₀⟩
      · exact ⟨k1 _ _ (off p hp) (N' p hp).1, (N' p hp).2⟩
    have hv : v ∈ vs := by
      have : vs[i]? = some v := by simpa using hP
      exact List.mem_of_getElem? this
    refine lotgT ⟨oI, eI, cI, dI⟩ ?_
    refine wpAny_toks s.toks htk₁ (hasg v m' _ _ _ _ hv (fun p hp => List.mem_cons_of_mem _ hp) F₁ N₁ fun h₂ tk₂ m₂ F₂ N₂ hA htk₂ => ?_)
    refine wpAny_toks s.toks htk₂ (wpAny_passesOwn hE (wpAny_mono (step v m' m₂ I oI h₂ tk₂ hv so hA off F₂ N₂ htk₂) (fun f s₃ h₃ htk₃ => ?_) fun _ _ e => e))
    have key : (∃ h' tk m₂, s₃ = { { s with heap := h₂, toks := tk₂ } with heap := h', toks := tk } ∧ Fr h₀ env.locals h' m₂ ∧ News h₀ env.locals h' ((I, oI) :: led) ∧ SameOff sto [] m₂ m₀) →
        ∃ k, k < vs.length + 1 - i ∧ ∃ h' tk i m', s₃ = { s with heap := h', toks := tk } ∧ s.toks ≤ tk ∧ i ≤ vs.length ∧ k = vs.length + 1 - i ∧ h'.IsTupleIter I ax i ∧ Fr h₀ env.locals h' m' ∧ News h₀ env.locals h' led ∧ SameOff sto [] m' m₀ := by
      rintro ⟨h₃', tk₃, m₃, rfl, F₃, N₃, so₃⟩
      exact ⟨vs.length + 1 - (i + 1), by omega, h₃', tk₃, i + 1, m₃, rfl, htk₃, hlt', rfl, ⟨oI, (N₃ _ List.mem_cons_self).1, cI, dI⟩, F₃, fun p hp => N₃ p (List.mem_cons_of_mem _ hp), so₃⟩
    cases f with
    | ret v => exact h₃
    | brk => exact h₃
    | next => exact key h₃
    | cont => exact key h₃
  · obtain rfl : i = vs.length := by omega
    refine wpAny_toks s.toks htk (W.done _ _ _ ⟨hit', hl'⟩ fun h₁ tk₁ hk₁ htk₁ => wpAny_execs_nil ?_)
    have k1 : ∀ b o, b ≠ I → h'.get? b = some o → h₁.get? b = some o := fun b o hb e => hk₁ b o (by simpa using hb) e
    exact fin h₁ tk₁ m' ⟨F'.ns.at' fun o e => k1 _ o hIL e, fun b o e => k1 b o (fun q => by rw [q, hI₀] at e; cases e) (F'.keep b o e), F'.above⟩ (fun p hp => ⟨k1 _ _ (off p hp) (N' p hp).1, (N' p hp).2⟩) so htk₁
theorem asgF_three {a b c : Str} {pa pb pc tp : Pos} {kk : Nat} {vs : List Value} {led : List (Addr × Obj)} (hh : A.handled = none) (ha : env.kindOf a = some .local) (hb : env.kindOf b = some .local) (hc : env.kindOf c = some .local)
    (hp : (env.scope.kind == .class || (env.scope.kind == .module && env.locals != env.globals)) = false) (T : Value → Value → Value → Value → Prop) (ht : ∀ v ∈ vs, ∃ t x y z, v = .ref t ∧ (t, ({ cls := .type "tuple", data := .seq #[x, y, z] } : Obj)) ∈ led ∧ T v x y z) :
    AsgF prog w A h₀ env (.Tuple [.Name a pa, .Name b pb, .Name c pc] kk tp) led vs (fun v m₁ m₂ => ∃ x y z, T v x y z ∧ m₂ = fun y' => if y' = c then some z else if y' = b then some y else if y' = a then some x else m₁ y') := by
  intro v m₁ nw s Q E hv hs F N h
  obtain ⟨t, x, y, z, rfl, hm, hT⟩ := ht v hv
  refine wpAny_assign_Tuple hh ⟨_, (N _ (hs _ hm)).1, rfl, _, rfl⟩ rfl rfl fun h₁ he₁ => ?_
  have F₁ : Fr h₀ env.locals h₁ m₁ := F.keeps fun d o e => he₁ d o (Nat.ne_of_lt (Heap.lt_size e)) e
  have N₁ : News h₀ env.locals h₁ nw := N.grown fun d o e => he₁ d o (Nat.ne_of_lt (Heap.lt_size e)) e
  show wpAny _ _ (assignInOrder [assign (.Name a pa) _, assign (.Name b pb) _, assign (.Name c pc) _] [x, y, z]) _ _ _
  refine assignInOrder_cons (wpAny_assign_Name (wpAny_storeName_local ha F₁.ns (fun h₂ hn₂ hs₂ => ?_) hp))
  have F₂ := F₁.set hn₂ hs₂
  have N₂ : News h₀ env.locals h₂ nw := fun p hp => N₁.set hs₂ p hp
  refine assignInOrder_cons (wpAny_assign_Name (wpAny_storeName_local hb F₂.ns (fun h₃ hn₃ hs₃ => ?_) hp))
  have F₃ := F₂.set hn₃ hs₃
  have N₃ : News h₀ env.locals h₃ nw := fun p hp => N₂.set hs₃ p hp
  refine assignInOrder_cons (wpAny_assign_Name (wpAny_storeName_local hc F₃.ns (fun h₄ hn₄ hs₄ => ?_) hp))
  have F₄ := F₃.set hn₄ hs₄
  have N₄ : News h₀ env.locals h₄ nw := fun p hp => N₃.set hs₄ p hp
  refine assignInOrder_nil (h h₄ _ _ F₄ N₄ ⟨x, y, z, hT, rfl⟩)
theorem asgF_one {a : Str} {pa : Pos} {vs : List Value} {led : List (Addr × Obj)} (ha : env.kindOf a = some .local)
    (hp : (env.scope.kind == .class || (env.scope.kind == .module && env.locals != env.globals)) = false) :
    AsgF prog w A h₀ env (.Name a pa) led vs (fun v m₁ m₂ => m₂ = fun y' => if y' = a then some v else m₁ y') := by
  intro v m₁ nw s Q E hv hs F N h
  refine wpAny_assign_Name (wpAny_storeName_local ha F.ns (fun h₂ hn₂ hs₂ => ?_) hp)
  exact h h₂ _ _ (F.set hn₂ hs₂) (fun p hp => N.set hs₂ p hp) rfl
theorem mapS_same {sto : List Str} {m₁ m₀ : Str → Option Value} (h : SameOff sto [] m₁ m₀) : mapS sto m₁ m₀ [] = m₁ := by
  funext y
  show (if sto.contains y = true then m₁ y else m₀ y) = m₁ y
  cases h3 : sto.contains y with
  | true => simp
  | false => simp only [Bool.false_eq_true, if_false]; exact (h y (fun p hp => nomatch hp) h3).symm
end
end Mine

end PartPForT
section PartPLwT
open PySem PySem.W PyProof.Rows
set_option maxRecDepth 100000
set_option maxHeartbeats 4000000
set_option linter.unusedSectionVars false
open PySem.Flt
namespace Mine
theorem item_led {prog : Program} {w : World} {A : Around} {E : Value → Shared → Prop} {s : Shared} {h₀ : Heap} {L : Addr} {news : List (Addr × Obj)} {value slice : PySem.Expr} {l : Addr} {vs : List Value} {kk : Nat} {k : Int} {u : Tok} {v : Value} {Q : Value → Shared → Prop} (N : News h₀ L s.heap news) (hl : (l, listO vs kk) ∈ news)
    (h0 : 0 ≤ k) (hfit : k < 2 ^ 63) (hx : vs[k.toNat]? = some v) (h : Q v s)
    (hs : subscripted slice false (.ref l) (.int k u) = operate [.ref l, .int k u] (getItem (.ref l) (.int k u)) := by with_unfolding_all rfl) :
    wpAny (model prog w) A (subscriptTail value slice (.ref l) (.int k u)) Q E s := by
  have hL : s.heap.IsList l vs.toArray := ⟨_, (N _ hl).1, rfl, _, rfl⟩
  exact tail_any hL.typeIs slot_list_getitem.lookup (wpAny_getItem_list hL h0 hfit (by simpa using hx) h) hs
noncomputable abbrev fL (ns : List Int) (p : Nat) : UInt64 := divI (Wn ns p : Int) 32
noncomputable abbrev fN (ns : List Int) (p : Nat) : UInt64 := neg1 (divI (Wn ns p : Int) 32)
theorem selfL (ns : List Int) : SelfF (fL ns) := fun p => by
  have key : ∀ k ≤ 18, (Float64.cmp (divI (k : Nat) 32) (divI (k : Nat) 32) == some .eq) = true := by decide +kernel
  exact key _ (Wn_le ns p)
theorem selfN (ns : List Int) : SelfF (fN ns) := fun p => by
  have key : ∀ k ≤ 18, (Float64.cmp (neg1 (divI (k : Nat) 32)) (neg1 (divI (k : Nat) 32)) == some .eq) = true := by decide +kernel
  exact key _ (Wn_le ns p)
noncomputable def RL (l : List Nat) (f : Nat → UInt64) (j : Nat) (r g b : UInt64) : Prop := ∃ p, l[j]? = some p ∧ hlsL r g b = f p
theorem FltsT.rev {ys : List Value} {l : List Nat} {f : Nat → UInt64} (h : FltsT ys l f) : FltsT ys.reverse l.reverse f := by
  refine ⟨by simp [h.1], fun j p e => ?_⟩
  have hj : j < l.length := by rcases List.getElem?_eq_some_iff.mp e with ⟨q, _⟩; simpa using q
  rw [List.getElem?_reverse hj] at e
  obtain ⟨t, e1, e2⟩ := h.2 _ p e
  exact ⟨t, by rw [List.getElem?_reverse (by rw [h.1]; exact hj), h.1]; exact e1, e2⟩
theorem colsRL {ns : List Int} {ext : List (Addr × Obj)} {vs : List Value} {l : List Nat} {col : Nat → Col} {lt f : Nat → UInt64} (h : ColsL ext vs l col) (hc : ∀ p, ColIs (col p) (lt p) (f p)) : ColsAre ext vs (RL l lt) :=
  h.are (fun _ hp => hp) (fun p => (hc p).1) fun j p e => ⟨p, e, (hc p).2.1⟩
end Mine

end PartPLwT
section PartPEllF
open PySem PySem.W PyProof.Rows PySem.Calls PySem.Spec
set_option maxRecDepth 100000
set_option maxHeartbeats 8000000
namespace Mine
theorem cut_texts : ∀ bs ∈ texts, ∀ i ≤ 6, Txt.slice (tx bs) none (some (i : Nat)) = tx (bs.take i) ∧ Txt.slice (tx bs) (some (i : Nat)) none = tx (bs.drop i) ∧ Txt.startswith (tx bs) (tx (bs.take i)) = true ∧ Txt.endswith (tx bs) (tx (bs.drop i)) = true := by decide +kernel
theorem ch_not (l : List Bool) : 46 ∉ l.map ch := by
  intro h
  obtain ⟨b, _, hb⟩ := List.mem_map.mp h
  cases b <;> simp [ch] at hb
theorem want_fe (fr en : List Bool) : tx fr ++ Str.ofString "..." ++ tx en = mkS (jl [fr.map ch, en.map ch]) := by
  apply Str.ext'
  rw [Str.cps_append, Str.cps_append]
  apply Array.toList_inj.mp
  simp only [Array.toList_append, tx_list]
  show _ = (fr.map ch) ++ (46 :: 46 :: 46 :: (en.map ch))
  have : (Str.ofString "...").cps.toList = [46, 46, 46] := by decide +kernel
  rw [this]
  simp
theorem fe_no (fr en : List Bool) : ∀ a ∈ [fr.map ch, en.map ch], 46 ∉ a := by
  intro a ha
  simp only [List.mem_cons, List.not_mem_nil, or_false] at ha
  rcases ha with rfl | rfl
  · exact ch_not fr
  · exact ch_not en
theorem fe_split (fr en : List Bool) : Txt.split (tx fr ++ Str.ofString "..." ++ tx en) (Str.ofString "...") = [tx fr, tx en] := by
  rw [want_fe]
  exact split_dots (fe_no fr en)
theorem fe_ne (fr en : List Bool) : (Builtin.Str.occurrences (tx fr ++ Str.ofString "..." ++ tx en) (Str.ofString "...") 0 (tx fr ++ Str.ofString "..." ++ tx en).length 1).isEmpty = false := by
  rw [want_fe]
  exact has_dots (fe_no fr en)
theorem fe_len (fr en : List Bool) : (tx fr ++ Str.ofString "..." ++ tx en).length = fr.length + 3 + en.length := by
  rw [want_fe, mkS_len]
  simp [jl]; omega
end Mine

end PartPEllF
section PartPLw6
open PySem PySem.W PyProof.Rows PySem.Calls PySem.Spec
set_option maxRecDepth 100000
set_option maxHeartbeats 8000000
set_option linter.unusedSectionVars false
open PySem.Flt
namespace Mine
noncomputable def cL (W : Nat → Nat) (l : List Nat) (x : Nat) : Nat := l.countP fun j => decide (W j < W x)
theorem cL_at {W : Nat → Nat} {x : Nat} : ∀ {l : List Nat}, l.Pairwise (SLt W) → ∀ {j p : Nat}, l[j]? = some p → (W p < W x ↔ j < cL W l x)
  | [], _, j, p, h => by simp at h
  | a :: l, hs, j, p, h => by
    rw [List.pairwise_cons] at hs
    have ih : ∀ {j p : Nat}, l[j]? = some p → (W p < W x ↔ j < cL W l x) := fun h => cL_at (x := x) hs.2 h
    by_cases ha : W a < W x
    · have e : cL W (a :: l) x = cL W l x + 1 := by unfold cL; rw [List.countP_cons_of_pos (by simpa using ha)]
      rw [e]
      cases j with
      | zero => simp at h; subst h; constructor <;> intro q <;> omega
      | succ j => rw [ih (by simpa using h)]; omega
    · have hall : ∀ b ∈ l, W x ≤ W b := fun b hb => by rcases hs.1 b hb with q | q <;> omega
      have e : cL W (a :: l) x = 0 := by
        unfold cL
        rw [List.countP_eq_zero]
        intro b hb
        rcases List.mem_cons.mp hb with rfl | hb
        · simpa using ha
        · have := hall b hb; simp; omega
      rw [e]
      cases j with
      | zero => simp at h; subst h; constructor <;> intro q <;> omega
      | succ j => have := hall p (List.mem_of_getElem? (by simpa using h)); constructor <;> intro q <;> omega
theorem cL_le (W : Nat → Nat) (l : List Nat) (x : Nat) : cL W l x ≤ l.length := List.countP_le_length
theorem cut_le {W : Nat → Nat} {l : List Nat} (hs : l.Pairwise (SLt W)) {i j p q : Nat} (hi : l[i]? = some p) (hj : l[j]? = some q) : decide (cntW W l p ≤ cL W l q) = decide (W p < W q) ∧ 1 ≤ cntW W l p ∧ cL W l q < l.length := by
  have hjl : j < l.length := by rcases List.getElem?_eq_some_iff.mp hj with ⟨h, _⟩; exact h
  have a1 := cnt_at (x := p) hs hi
  have a2 := cL_at (x := q) hs hj
  have a3 := cnt_at (x := p) hs hj
  refine ⟨decide_eq_decide.mpr ⟨fun h => ?_, fun h => ?_⟩, by omega, by omega⟩
  · exact a3.mpr (by omega)
  · by_cases hc : cL W l q < cntW W l p
    · have hle := cnt_le W l p
      have hlt : cL W l q < l.length := by omega
      have e := List.getElem?_eq_getElem hlt
      have b1 := cnt_at (x := p) hs e
      have b2 := cL_at (x := q) hs e
      omega
    · omega
theorem bisR_of {ns : List Int} {ys : List Value} {l : List Nat} (hs : l.Pairwise (SLt (Wn ns))) (h : FltsT ys l (fL ns)) (p : Nat) : FltsAre ys fun j y => (Float64.cmp (divI (Wn ns p : Int) 32) y == some .lt) = decide (cntW (Wn ns) l p ≤ j) := by
  intro j hj
  have hj' : j < l.length := by rw [← h.1]; exact hj
  have e := List.getElem?_eq_getElem hj'
  obtain ⟨t, e1, _⟩ := h.2 j _ e
  exact ⟨t, _, e1, ins_R hs (Wn_le ns) e⟩
theorem bisL_of {ns : List Int} {ys : List Value} {l : List Nat} (hs : l.Pairwise (SLt (Wn ns))) (h : FltsT ys l (fL ns)) (p : Nat) : FltsAre ys fun j y => (Float64.cmp y (divI (Wn ns p : Int) 32) == some .lt) = decide (j < cL (Wn ns) l p) := by
  intro j hj
  have hj' : j < l.length := by rw [← h.1]; exact hj
  have e := List.getElem?_eq_getElem hj'
  obtain ⟨t, e1, _⟩ := h.2 j _ e
  refine ⟨t, _, e1, ?_⟩
  show (Float64.cmp (fL ns l[j]) _ == _) = _
  rw [lgt_cmp (Wn_le ns _) (Wn_le ns _)]
  exact decide_eq_decide.mpr (cL_at hs e)
noncomputable def StrT (ys : List Value) (l : List Nat) (g : Nat → Str) : Prop := ys.length = l.length ∧ ∀ (j p : Nat), l[j]? = some p → ∃ t : Tok, ys[j]? = some (Value.str (g p) t)
theorem got_strT {vs ys : List Value} {l : List Nat} {g : Nat → Str} (hl : vs.length = l.length) (got : Got vs ys fun j y => ∃ (p : Nat) (t : Tok), l[j]? = some p ∧ y = Value.str (g p) t) : StrT ys l g := by
  refine ⟨by rw [got.1, hl], fun j p e => ?_⟩
  have hj : j < l.length := by rcases List.getElem?_eq_some_iff.mp e with ⟨q, _⟩; exact q
  obtain ⟨y, e1, p', t, e2, rfl⟩ := got.2 j (by rw [hl]; exact hj)
  rw [e] at e2
  cases e2
  exact ⟨t, e1⟩
section
variable {prog : Program} {w : World} {A : Around} {E : Value → Shared → Prop} {s : Shared} {h₀ : Heap} {L : Addr} {m : Str → Option Value} {news : List (Addr × Obj)}
theorem cut_ns {h : Heap} {g : _} {d : _} {tk : Nat} {o : _} {value slice : PySem.Expr} {bs : List Bool} {t : Tok} {i : Int} {ui : Tok} {Q : Value → Shared → Prop} (hF : Fr h₀ L h m) (hN : News h₀ L h news) (hb : bs.length ≤ 100)
    (hq : ∀ h' t' k, Fr h₀ L h' m → News h₀ L h' news → Q (.str (Txt.slice (tx bs) none (some i)) t') (Shared.mk h' g d k o))
    (hs : subscripted slice false (.str (tx bs) t) (.ref h.objs.size) = operate [.ref h.objs.size, .str (tx bs) t] (getItem (.str (tx bs) t) (.ref h.objs.size)))
    (ht : ∀ r, letTemporaryGo value (.str (tx bs) t) r = pure ()) :
    wpAny (model prog w) A (subscriptTail value slice (.str (tx bs) t) (.ref h.objs.size)) Q E (Shared.mk (h.push { cls := .type "slice", data := .fields #[.none, .int i ui, .none] }) g d tk o) :=
  slice_strN_ns (s := Shared.mk h g d tk o) hF hN hq hs ht (by rw [tx_len, PySem.sizeLine_eq]; omega)
theorem cut_sn {h : Heap} {g : _} {d : _} {tk : Nat} {o : _} {value slice : PySem.Expr} {bs : List Bool} {t : Tok} {i : Int} {ui : Tok} {Q : Value → Shared → Prop} (hF : Fr h₀ L h m) (hN : News h₀ L h news) (hb : bs.length ≤ 100)
    (hq : ∀ h' t' k, Fr h₀ L h' m → News h₀ L h' news → Q (.str (Txt.slice (tx bs) (some i) none) t') (Shared.mk h' g d k o))
    (hs : subscripted slice false (.str (tx bs) t) (.ref h.objs.size) = operate [.ref h.objs.size, .str (tx bs) t] (getItem (.str (tx bs) t) (.ref h.objs.size)))
    (ht : ∀ r, letTemporaryGo value (.str (tx bs) t) r = pure ()) :
    wpAny (model prog w) A (subscriptTail value slice (.str (tx bs) t) (.ref h.objs.size)) Q E (Shared.mk (h.push { cls := .type "slice", data := .fields #[.int i ui, .none, .none] }) g d tk o) :=
  slice_strN_sn (s := Shared.mk h g d tk o) hF hN hq hs ht (by rw [tx_len, PySem.sizeLine_eq]; omega)
theorem add_tx1 {fr : List Bool} {t u : Tok} {Q : Value → Shared → Prop} (hf : fr.length ≤ 100) (h : ∀ t' k, Q (.str (tx fr ++ Str.ofString "...") t') { s with toks := k }) : wpAny (model prog w) A (binaryOp .Add (.str (tx fr) t) (.str (Str.ofString "...") u)) Q E s := by
  refine add_str h ?_
  rw [tx_len, PySem.sizeLine_eq]
  show _ + 3 ≤ _
  omega
theorem add_tx2 {fr en : List Bool} {t u : Tok} {Q : Value → Shared → Prop} (hf : fr.length ≤ 100) (he : en.length ≤ 100) (h : ∀ t' k, Q (.str (tx fr ++ Str.ofString "..." ++ tx en) t') { s with toks := k }) : wpAny (model prog w) A (binaryOp .Add (.str (tx fr ++ Str.ofString "...") t) (.str (tx en) u)) Q E s := by
  refine add_str h ?_
  have e : (tx fr ++ Str.ofString "...").length = fr.length + 3 := by
    show (tx fr ++ Str.ofString "...").cps.size = _
    rw [Str.cps_append, Array.size_append]
    show (tx fr).length + 3 = _
    rw [tx_len]
  rw [e, tx_len, PySem.sizeLine_eq]
  omega
theorem item_tup0 {value slice : PySem.Expr} {a : Addr} {x y z : Int} {t1 t2 t3 u : Tok} {Q : Value → Shared → Prop} (N : News h₀ L s.heap news) (hl : (a, tup3 x y z t1 t2 t3) ∈ news) (h : Q (.int x t1) s)
    (hs : subscripted slice false (.ref a) (.int 0 u) = operate [.ref a, .int 0 u] (getItem (.ref a) (.int 0 u)) := by with_unfolding_all rfl) :
    wpAny (model prog w) A (subscriptTail value slice (.ref a) (.int 0 u)) Q E s := by
  have hT : s.heap.IsTuple a #[.int x t1, .int y t2, .int z t3] := ⟨_, (N _ hl).1, rfl, _, rfl⟩
  exact item_tupleT hT (by decide) (by decide) rfl rfl h hs
end
section
variable {w : World} {mean : ExcName → Option Value} {mg mb : Str → Option Value} {dp un : Nat} {gd : Option (List Code)} {cn : Str} {cs : Scope} {a : Addr} {ccd : Value} {cl : List (Str × Addr)} {outer : List Env} {A₀ : Around} {base h₀ : Heap} {L : Addr} {m : Str → Option Value} {news : List (Addr × Obj)} {s : Shared} {Q E : Value → Shared → Prop}
 (B : Below A₀ base outer h₀) (F : Fr h₀ L s.heap m) (X : (Mine.hd.heap_1 w.params).In h₀) (N : News h₀ L s.heap news)
 (T : Top Mine.hd.view_1 (looseW Mine.hd.view_1 [Str.ofString "insort_right", Str.ofString "bisect_right", Str.ofString "insort_left", Str.ofString "bisect_left", Str.ofString "Whitespace"]) mean mg mb h₀) (hk : cs.kind = .function) (hd : dp + 2 < recursionLimit) (hu : un + 16 < cLine)
include B F X N T hk hd hu
theorem ell_fe {bs : List Bool} {i j : Nat} {v : Bool} {t1 t2 : Tok} (h4 : 4 ≤ bs.length) (h6 : bs.length ≤ 6) (hi : 1 ≤ i) (hi2 : i ≤ bs.length) (hj : j < bs.length) (hv : decide (i ≤ j) = v)
 (ret : ∀ h' tk', Fr h₀ L h' m → News h₀ L h' news → Q (.bool v) {s with heap := h', toks := tk'})
 : wpAny (model PySem.Challenge.rw_sc0103_01.row.prog w) (ktrTop dp un gd cn cs L a ccd cl outer) (call (.ref 85) [.str (tx (bs.take i) ++ Str.ofString "..." ++ tx (bs.drop j)) t1, .str (tx bs) t2]) Q E s := by
  have hm := mem_texts h4 h6
  have e1 := cut_texts bs hm i (by omega)
  have e2 := cut_texts bs hm j (by omega)
  have l1 : (tx (bs.take i)).length = i := by rw [tx_len, List.length_take]; omega
  have l2 : (tx (bs.drop j)).length = bs.length - j := by rw [tx_len, List.length_drop]
  have l3 : (tx bs).length = bs.length := tx_len bs
  refine ell_two B F X N T hk hd hu (fr := tx (bs.take i)) (en := tx (bs.drop j)) (by rw [fe_len, List.length_take, List.length_drop]; omega) (by omega) (by omega) (by omega) (fe_ne _ _) (fe_split _ _) (hbf := decide_eq_true (by omega)) (hbe := decide_eq_true (by omega)) e1.2.2.1 e2.2.2.2 (by omega) (by omega) fun h' tk' F' N' => ?_
  have : decide ((tx (bs.take i)).length + (tx (bs.drop j)).length ≤ (tx bs).length) = v := by
    rw [← hv]
    exact decide_eq_decide.mpr (by omega)
  rw [this]
  exact ret h' tk' F' N'
end
end Mine

end PartPLw6
section LawRules
open Mine PySem.Flt
local macro_rules | `(tactic| walk_at "execs cons") => `(tactic| (k_here; (with_reducible show wpAny _ _ _ _ _ (Shared.mk _ _ _ (_ + _) _)); refine tk_gen ?_; intro _ _))
local macro_rules | `(tactic| walk_at "execs nil") => `(tactic| (k_here; (with_reducible show wpAny _ _ _ _ _ (Shared.mk _ _ _ (_ + _) _)); refine tk_gen ?_; intro _ _))
local macro_rules | `(tactic| k_all) => `(tactic| assumption)
local macro_rules | `(tactic| k_upd) => `(tactic| first | (with_reducible refine' Upd.head ?a; (case a => k_all)) | (with_reducible refine' Upd.tail ?a ?b; (case a => k_ne); (case b => k_upd)))
local macro_rules | `(tactic| walk_at "binaryOp Mod int int") => `(tactic| (k_here; (with_reducible refine mod_as (by assumption) (by omega) ?_); intro _ _ _ _; (try dsimp only)))
local macro_rules | `(tactic| walk_at "binaryOp Add int int") => `(tactic| (k_here; (with_reducible refine add_as (by assumption) ?_); intro _ _ _ _; (try dsimp only)))
local macro_rules | `(tactic| walk_at "binaryOp Mult int int") => `(tactic| (k_here; (with_reducible refine mul_as (by assumption) (by omega) (by omega) ?_); intro _ _ _ _; (try dsimp only)))
local macro_rules | `(tactic| walk_at "binaryOp Div int int") => `(tactic| (k_here; k_dflt (refine div_as rfl (by omega) (by omega) (by omega) ?_); intro _ _ _ _; (try dsimp only)))
local macro_rules | `(tactic| walk_at "binaryOp Add float int") => `(tactic| (k_here; (with_reducible refine addf_as (by assumption) (by omega) (by omega) ?_); intro _ _ _ _; (try dsimp only)))
local macro_rules | `(tactic| walk_at "binaryOp Sub int float") => `(tactic| (k_here; (with_reducible refine neg_as (by assumption) ?_); intro _ _ _ _; (try dsimp only)))
local macro_rules | `(tactic| walk_at "binaryOp Add float float") => `(tactic| (k_here; (with_reducible refine addff_as (by assumption) ?_); intro _ _ _ _; (try dsimp only)))
local macro_rules | `(tactic| walk_at "subscriptTail Name Name ref int") => `(tactic| (k_here; k_dflt (refine' item_led ?k1 ?k2 ?k3 ?k4 ?k5 ?_ ?k6; (case k1 => k_asm); (case k2 => k_mem); (case k3 => omega); (case k4 => omega); (case k5 => assumption); (case k6 => with_unfolding_all rfl))))
local macro_rules | `(tactic| walk_at "storeName") => `(tactic| (k_here; k_dflt (refine' storeX_C ?k1 ?k2 ?k3 ?k4 ?k5 ?_; (case k1 => k_asm); (case k2 => k_asm); (case k3 => rfl); (case k5 => assumption); (case k4 => k_updF)); (intro h9 o9 F9 N9 e9); (try dsimp only); (try k_fold)))
local macro_rules | `(tactic| walk_at "eval ListComp") => `(tactic| (k_here; k_dflt (refine comp_E (by k_asm) rfl (by with_unfolding_all rfl) (by decide) (by rfl) (by decide) (by intro _; with_unfolding_all rfl) ?_)))
local macro_rules | `(tactic| walk_at "exec Assign cons ListComp") => `(tactic| (k_here; k_dflt (refine comp_A (by k_asm) rfl rfl (by with_unfolding_all rfl) (by with_unfolding_all rfl) (by decide) (by rfl) (by decide) (by intro _; with_unfolding_all rfl) (by rfl) (by rfl) ?_)))
local macro_rules | `(tactic| walk_at "exec For Tuple Tuple cons nil") => `(tactic| (k_here; k_dflt (refine for_enterT (by intro _; with_unfolding_all rfl) ?_)))
local macro_rules | `(tactic| walk_at "compareOp NotEq ref ref") => `(tactic| (k_here; k_dflt (refine' ne_flts ?k1 ?k2 ?k3 ?k4 ?k5 ?k6 ?k7 ?k8 ?ku ?_; (case k1 => k_asm); (case k2 => k_asm); (case k3 => k_asm); (case k4 => k_mem); (case k5 => (repeat (first | assumption | exact List.mem_cons_self | refine List.mem_cons_of_mem _ ?_))); (case k6 => assumption); (case k7 => assumption); (case k8 => exact fun p _ => (by assumption : SelfF _) p); (case ku => ktr_units))))
local macro_rules | `(tactic| walk_at "compareOp NotEq str str") => `(tactic| (k_here; (with_reducible refine ne_str_same ?_)))
local macro_rules | `(tactic| walk_at "subscriptTail Name Slice str ref") => `(tactic| (k_here; k_dflt (refine wpAny_toks _ (Nat.le_refl _) ?_; refine' rev_tx ?k1 ?k2 ?k3 ?k4 ?_; (case k1 => k_asm); (case k2 => k_asm); (case k3 => assumption); (case k4 => assumption)); (intro h9 t9 c9 F9 N9 htk9); (try dsimp only); (try k_fold)))
local macro_rules | `(tactic| walk_at "call builtin:len") => `(tactic| (k_here; (with_reducible show wpAny _ _ (call (Value.builtin "len") [Value.ref _]) _ _ _); k_dflt (refine' len_led ?k1 ?k2 ?k3 ?_; (case k1 => k_asm); (case k2 => k_mem); (case k3 => omega)); intro _ _))
section DryPTurn
local macro_rules | `(tactic| walk_at "z0") => `(tactic| skip)
theorem Mine.offPTurn : True := by
  w_top off
  k_with_none
  try walk1
  trivial
end DryPTurn
section PartPTurn
open PySem PySem.W PyProof.Rows
set_option maxRecDepth 100000
set_option maxHeartbeats 6000000
set_option linter.unusedSectionVars false
open PySem.Flt
namespace Mine

local macro_rules | `(tactic| k_ne) => `(tactic| first | exact Nat.ne_of_gt (by assumption) | exact Nat.ne_of_lt (by assumption) | assumption | exact Ne.symm (by assumption))

section
variable {w : World} {mean : ExcName → Option Value} {mg mb : Str → Option Value} {dp un : Nat} {gd : Option (List Code)} {a : Addr} {ccd : Value} {outer : List Env} {A₀ : Around} {base h₀ : Heap} {L : Addr} {s : Shared} {Q : Flow → Shared → Prop} {E : Value → Shared → Prop} {m : Str → Option Value}
 (B : Below A₀ base outer h₀) (X : (Mine.hd.heap_1 w.params).In h₀)
 (T : Top Mine.hd.view_1 (looseW Mine.hd.view_1 [Str.ofString "insort_right", Str.ofString "bisect_right", Str.ofString "insort_left", Str.ofString "bisect_left", Str.ofString "Whitespace"]) mean mg mb h₀) (hd : dp + 5 < recursionLimit) (hu : un + 120 < cLine)
include B X T hd hu

theorem turn_c {vd : List Value} {kd : Nat} {D0 O P T0 G It : Addr} {oI : Obj} {ns : List Int} {base : List (Addr × Obj)} {i : Nat} {tv : Tok} {c : LS} {u : Str → Option Value} {x : Int} {tx0 : Tok}
 (F : Fr h₀ L s.heap (fun y => if y = Str.ofString "place" then some (.int (0 + (i : Int)) tv) else mapS [Str.ofString "place", Str.ofString "x", Str.ofString "half", Str.ofString "level", Str.ofString "hue", Str.ofString "share", Str.ofString "red", Str.ofString "green", Str.ofString "blue"] u (fun y => if y = Str.ofString "against" then some (.ref G) else if y = Str.ofString "turned" then some (.ref T0) else if y = Str.ofString "plain" then some (.ref P) else if y = Str.ofString "order" then some (.ref O) else if y = Str.ofString "drawn" then some (.ref D0) else m y) [] y))
 (N : News h₀ L s.heap ((It, oI) :: ledL O P T0 G D0 vd kd c)) (J : InvL ns base O P T0 G D0 i c) (off : ∀ p ∈ ledL O P T0 G D0 vd kd c, p.1 ≠ It)
 (hx : vd[i]? = some (.int x tx0)) (hr : rs x = res ns i) (hi : i < 6) (hvd : vd.length ≤ 10)
 (n1 : @Ne Nat O P) (n2 : @Ne Nat O T0) (n3 : @Ne Nat O G) (n4 : @Ne Nat O D0) (n5 : @Ne Nat P T0) (n6 : @Ne Nat P G) (n7 : @Ne Nat P D0) (n8 : @Ne Nat T0 G) (n9 : @Ne Nat T0 D0) (n10 : @Ne Nat G D0) :
 wpAny (model PySem.Challenge.rw_sc0103_01.row.prog w) (lawA dp un gd L a ccd outer) (execs loopB (lawE L a ccd))
  (TurnS (fun _ : LS => []) (ledL O P T0 G D0 vd kd) (InvL ns base O P T0 G D0 (i + 1)) [Str.ofString "place", Str.ofString "x", Str.ofString "half", Str.ofString "level", Str.ofString "hue", Str.ofString "share", Str.ofString "red", Str.ofString "green", Str.ofString "blue"] (fun y => if y = Str.ofString "against" then some (.ref G) else if y = Str.ofString "turned" then some (.ref T0) else if y = Str.ofString "plain" then some (.ref P) else if y = Str.ofString "order" then some (.ref O) else if y = Str.ofString "drawn" then some (.ref D0) else m y) h₀ L s It oI Q) E s := by
  obtain ⟨vo, vp, vt, vg, ko, kp, kt, kg, ext⟩ := c
  have J0 := J
  obtain ⟨lo, ord, cp, ct, cg, a1, a2, a3, a4, bs⟩ := J
  dsimp only at lo ord cp ct cg a1 a2 a3 a4 bs
  have o1 : @Ne Nat O It := off (O, listO vo ko) (by simp [ledL])
  have o2 : @Ne Nat P It := off (P, listO vp kp) (by simp [ledL])
  have o3 : @Ne Nat T0 It := off (T0, listO vt kt) (by simp [ledL])
  have o4 : @Ne Nat G It := off (G, listO vg kg) (by simp [ledL])
  have o5 : @Ne Nat D0 It := off (D0, listO vd kd) (by simp [ledL])
  have o6 : ∀ p ∈ ext, p.1 ≠ It := fun p hp => off p (by simp [ledL, hp])
  replace N : News h₀ L s.heap ((It, oI) :: (O, listO vo ko) :: (P, listO vp kp) :: (T0, listO vt kt) :: (G, listO vg kg) :: (D0, listO vd kd) :: ext) := N
  have hx' : vd[(0 + (i : Int)).toNat]? = some (.int x tx0) := by rw [Int.zero_add]; simpa using hx
  have e1 : (x.fdiv 16).fmod 2 = (hf (res ns i) : Int) := hr ▸ rs_half x
  have e2 : (x.fdiv 32).fmod 6 = ((res ns i / 32 % 6 : Nat) : Int) := hr ▸ rs_level x
  have e3 : ((res ns i / 32 % 6 : Nat) : Int) + 1 = (lv (res ns i) : Int) := rs_lv _
  have e4 : x.fmod 16 = (kq (res ns i) : Int) := hr ▸ rs_k x
  have e5 : (x.fdiv 192).fmod 2 = (upp (res ns i) : Int) := hr ▸ rs_u x
  have e6 : 2 + (hf (res ns i) : Int) = ((2 + hf (res ns i) : Nat) : Int) := by push_cast; rfl
  have e7 : (lv (res ns i) : Int) * ((2 + hf (res ns i) : Nat) : Int) = (Wn ns i : Int) := by have := wt_mul (res ns i); unfold Wn; rw [← this]; push_cast; rfl
  have b1 := kq_lt (res ns i)
  have b2 := hf_le (res ns i)
  have b3 := lv_le (res ns i)
  have b4 := upp_le (res ns i)
  have g1 : Float64.add (divI (kq (res ns i) : Int) 16) (Float64.ofInt (upp (res ns i) : Int)) = hueR (res ns i) := rfl
  have g2 : neg1 (divI (hf (res ns i) : Int) 2) = shR (res ns i) := rfl
  have g3 : Float64.add (hueR (res ns i)) (divI 9 32) = hueT (res ns i) := rfl
  have g4 : neg1 (colP (res ns i)).1 = (colG (res ns i)).1 := rfl
  have g5 : neg1 (colP (res ns i)).2.1 = (colG (res ns i)).2.1 := rfl
  have g6 : neg1 (colP (res ns i)).2.2 = (colG (res ns i)).2.2 := rfl
  have hr384 := res_lt ns i
  have hi0 : 0 + (i : Int) = (i : Int) := Int.zero_add _
  have rP := rdyR_of (col := fun p => colP (res ns p)) (by omega : i ≤ 8) (colP_is ns) cp
  have rT := rdyR_of (col := fun p => colT (res ns p)) (by omega : i ≤ 8) (colT_is ns) ct
  have rG := rdyL_of (col := fun p => colG (res ns p)) (by omega : i ≤ 8) (colG_is ns) cg
  try dsimp only at rP rT rG
  unfold loopB lawD getD lawE
  try dsimp only
  try ((show let A0z := _; let Q0z := _; let E0z := _; wpAny _ A0z _ Q0z E0z _); intro A0z Q0z E0z)
  (k_steps <;> repeat' (first | ((k_here; (with_reducible show wpAny _ _ (call (Value.ref 78) [Value.float (hueR _) _, _, _]) _ _ _); k_dflt (refine' colP_c ?k1 ?k2 ?k3 ?k4 ?k5 ?kK ?kd ?ku ?hr ?_; (case k1 => k_asm); (case k2 => k_asm); (case k3 => k_asm); (case k4 => k_asm); (case k5 => k_asm); (case kK => first | exact rfl | assumption); (case kd => ktr_room); (case ku => ktr_units); (case hr => assumption)); (intro t9z t8 t7 h9z tk9z a9z F9z N9z l9z); (have q9z := allLt_of l9z); (dsimp only [AllLt] at q9z); (try dsimp only); (try k_fold)) <;> k_steps) | ((k_here; (with_reducible show wpAny _ _ (call (Value.ref 78) [Value.float (hueT _) _, _, _]) _ _ _); k_dflt (refine' colT_c ?k1 ?k2 ?k3 ?k4 ?k5 ?kK ?kd ?ku ?hr ?_; (case k1 => k_asm); (case k2 => k_asm); (case k3 => k_asm); (case k4 => k_asm); (case k5 => k_asm); (case kK => first | exact rfl | assumption); (case kd => ktr_room); (case ku => ktr_units); (case hr => assumption)); (intro t9z t8 t7 h9z tk9z a9z F9z N9z l9z); (have q9z := allLt_of l9z); (dsimp only [AllLt] at q9z); (try dsimp only); (try k_fold)) <;> k_steps) | ((k_here; (with_reducible show wpAny _ _ (call (Value.ref 48) [_, _] _) _ _ _); (repeat (rename (_ < _) ∧ _ => hq9z; obtain ⟨_, _⟩ := hq9z)); k_dflt (refine' insL_c ?k1 ?k2 ?k3 ?k4 ?k5 ?kK ?kd ?ku ?hl ?hR ?hm ?hs ?U ?_; (case k1 => k_asm); (case k2 => k_asm); (case k3 => k_asm); (case k4 => k_asm); (case k5 => k_asm); (case kK => first | exact rfl | assumption); (case kd => ktr_room); (case ku => ktr_units); (case hl => k_mem); (case hR => assumption); (case hm => k_mem); (case hs => (intro p hp; (repeat (first | exact hp | refine List.mem_cons_of_mem _ ?_)))); (case U => k_upd)); (intro h9z tk9z F9z N9z); (try dsimp only); (try k_fold)) <;> k_steps) | ((k_here; (with_reducible show wpAny _ _ (call (Value.ref 30) [_, _] _) _ _ _); (repeat (rename (_ < _) ∧ _ => hq9z; obtain ⟨_, _⟩ := hq9z)); k_dflt (refine' insR_c ?k1 ?k2 ?k3 ?k4 ?k5 ?kK ?kd ?ku ?hl ?hR ?hm ?hs ?U ?_; (case k1 => k_asm); (case k2 => k_asm); (case k3 => k_asm); (case k4 => k_asm); (case k5 => k_asm); (case kK => first | exact rfl | assumption); (case kd => ktr_room); (case ku => ktr_units); (case hl => k_mem); (case hR => assumption); (case hm => k_mem); (case hs => (intro p hp; (repeat (first | exact hp | refine List.mem_cons_of_mem _ ?_)))); (case U => k_upd)); (intro h9z tk9z F9z N9z); (try dsimp only); (try k_fold)) <;> k_steps)))
  (repeat (rename (_ < _) ∧ _ => hq9; obtain ⟨_, _⟩ := hq9))
  exact turn_end (by assumption) off (by k_asm) (by k_asm) ⟨by assumption, by assumption, by assumption, by assumption, by assumption⟩ ⟨by assumption, by assumption, by assumption, by assumption, by assumption⟩ ⟨by assumption, by assumption, by assumption, by assumption, by assumption⟩ ⟨by assumption, by assumption, by assumption, by assumption, by assumption⟩ ⟨by assumption, by assumption, by assumption, by assumption, by assumption⟩ (by (intro z h2 h3; (have h3' := h3); (simp only [List.forall_mem_cons, List.not_mem_nil, false_implies, implies_true, and_true, ne_eq] at h2); (simp only [List.contains_cons, List.contains_nil, Bool.or_false, Bool.or_eq_false_iff, beq_eq_false_iff_ne, ne_eq] at h3); simp only [mapS, kstB, h2, h3, h3', if_false, Bool.false_eq_true]))
end
end Mine

end PartPTurn
section DryPLaw2
local macro_rules | `(tactic| walk_at "z0") => `(tactic| skip)
theorem Mine.offPLaw2 : True := by
  w_top off
  k_with_none
  try walk1
  trivial
end DryPLaw2
section PartPLaw2
open PySem PySem.W PyProof.Rows
set_option maxRecDepth 100000
set_option maxHeartbeats 3000000
set_option linter.unusedSectionVars false
open PySem.Flt
namespace Mine


section
variable {w : World} {mean : ExcName → Option Value} {mg mb : Str → Option Value} {dp un : Nat} {gd : Option (List Code)} {a : Addr} {ccd : Value} {outer : List Env} {A₀ : Around} {base h₀ : Heap} {L : Addr} {s : Shared} {Q : Flow → Shared → Prop} {E : Value → Shared → Prop} {m : Str → Option Value}
 (B : Below A₀ base outer h₀) (X : (Mine.hd.heap_1 w.params).In h₀)
 (T : Top Mine.hd.view_1 (looseW Mine.hd.view_1 [Str.ofString "insort_right", Str.ofString "bisect_right", Str.ofString "insort_left", Str.ofString "bisect_left", Str.ofString "Whitespace"]) mean mg mb h₀) (hd : dp + 5 < recursionLimit) (hu : un + 120 < cLine)
 (hE : PassesOwn (model PySem.Challenge.rw_sc0103_01.row.prog w) (lawA dp un gd L a ccd outer) (lawE L a ccd) E)
include B X T hd hu hE

theorem law_c2 {vd vo vp vt vg : List Value} {kd ko kp kt kg : Nat} {D0 O P T0 G : Addr} {o1 o2 : Obj} {ns : List Int} {ext : List (Addr × Obj)} {u : Str → Option Value} {n : Nat} {v1 : Option Value}
 (F : Fr h₀ L s.heap (mapS [Str.ofString "place", Str.ofString "x", Str.ofString "half", Str.ofString "level", Str.ofString "hue", Str.ofString "share", Str.ofString "red", Str.ofString "green", Str.ofString "blue"] u (fun y => if y = Str.ofString "against" then some (.ref G) else if y = Str.ofString "turned" then some (.ref T0) else if y = Str.ofString "plain" then some (.ref P) else if y = Str.ofString "order" then some (.ref O) else if y = Str.ofString "drawn" then some (.ref D0) else m y) []))
 (N : News h₀ L s.heap ((O, listO vo ko) :: (P, listO vp kp) :: (T0, listO vt kt) :: (G, listO vg kg) :: (D0, listO vd kd) :: (L + 1 + 1, o2) :: (L + 1, o1) :: ext)) (d1 : o1.data = .cell v1)
 (ho : OrdL ns ext vo) (hvo : vo.length = n) (h4 : 4 ≤ n) (h6 : n ≤ 6) (htk : 1 ≤ s.toks)
 (n1 : @Ne Nat O (L + 1)) (n2 : @Ne Nat P (L + 1)) (n3 : @Ne Nat T0 (L + 1)) (n4 : @Ne Nat G (L + 1)) (n5 : @Ne Nat D0 (L + 1)) (n6 : ∀ p ∈ ext, p.1 ≠ L + 1)
 (m1 : @Ne Nat O (L + 1 + 1)) (m2 : @Ne Nat P (L + 1 + 1)) (m3 : @Ne Nat T0 (L + 1 + 1)) (m4 : @Ne Nat G (L + 1 + 1)) (m5 : @Ne Nat D0 (L + 1 + 1)) (m6 : ∀ p ∈ ext, p.1 ≠ L + 1 + 1)
 (next : ∀ (h : Heap) (tk : Nat) (m' : Str → Option Value) (D9 D3 D4 D5 : Addr) (c9 k3 k4 k5 : Nat) (vs ys3 ys4 ys5 : List Value) (t1 t2 : Tok) (o1' : Obj) (rest : List (Addr × Obj)),
  Fr h₀ L h m' → m' (Str.ofString "order") = some (.ref D9) → m' (Str.ofString "plain") = some (.ref P) → m' (Str.ofString "turned") = some (.ref T0) → m' (Str.ofString "against") = some (.ref G) → m' (Str.ofString "other") = some (.str (tx ((insAll (Wn ns) n).map fun p => !bitK ns p)) t2) →
  m' (Str.ofString "first") = some (.ref D3) → m' (Str.ofString "second") = some (.ref D4) → m' (Str.ofString "third") = some (.ref D5) → News h₀ L h ((L + 1 + 1, o2) :: rest) → (∀ p ∈ rest, p.1 ≠ L + 1 + 1) → o1'.data = .cell (some (.str (tx ((insAll (Wn ns) n).map (bitK ns))) t1)) → (L + 1, o1') ∈ rest →
  (D9, listO vs c9) ∈ rest → (D3, listO ys3 k3) ∈ rest → (D4, listO ys4 k4) ∈ rest → (D5, listO ys5 k5) ∈ rest → (P, listO vp kp) ∈ rest → (T0, listO vt kt) ∈ rest → (G, listO vg kg) ∈ rest → (∀ p ∈ ext, p ∈ rest) →
  FltsT ys3 (insAll (Wn ns) n) (fun p => divI (Kn ns p : Int) 16) → FltsT ys4 (insAll (Wn ns) n) (fun p => divI (((2 * Kn ns p + 9) % 32 : Nat) : Int) 32) → FltsT ys5 (insAll (Wn ns) n).reverse (fun p => divI (((Kn ns p + 8) % 16 : Nat) : Int) 16) → OrdS ns ext vs (insAll (Wn ns) n) → 1 ≤ tk →
  wpAny (model PySem.Challenge.rw_sc0103_01.row.prog w) (lawA dp un gd L a ccd outer) (execs (lawD.body.drop 13) (lawE L a ccd)) Q E { s with heap := h, toks := tk })
 : wpAny (model PySem.Challenge.rw_sc0103_01.row.prog w) (lawA dp un gd L a ccd outer) (execs (lawD.body.drop 7) (lawE L a ccd)) Q E s := by
  have hl := insAll_len (Wn ns) n
  have hO : OrdS ns ext _ (insAll (Wn ns) n) := OrdS.of (vo := vo) ho (fun p hp => by rw [hvo]; exact insAll_mem.mp hp)
  have hT : TupsAt ((O, listO vo ko) :: (P, listO vp kp) :: (T0, listO vt kt) :: (G, listO vg kg) :: (D0, listO vd kd) :: (L + 1 + 1, o2) :: (L + 1, o1) :: ext) vo (fun i => (Wn ns i : Int)) (fun i => (Kn ns i : Int)) := fun i hi => by
    obtain ⟨a, t, u, v, e, hm⟩ := ho i hi
    exact ⟨a, t, u, v, e, by repeat (first | exact hm | refine List.mem_cons_of_mem _ ?_)⟩
  have hol := hO.1
  rw [hl] at hol
  subst hvo
  generalize hvs : ((insAll (Wn ns) vo.length).map fun i => vo.getD i Value.none) = vs at hO hol
  generalize insAll (Wn ns) vo.length = l at hO hl next
  have e13 : lawD.body.drop 7 = _ :: _ :: _ :: _ :: _ :: _ :: lawD.body.drop 13 := rfl
  rw [e13]
  clear e13
  generalize lawD.body.drop 13 = rest13 at next ⊢
  unfold lawE at next hE ⊢
  try ((show let A0z := _; let Q0z := _; let E0z := _; wpAny _ A0z _ Q0z E0z _); intro A0z Q0z E0z)
  (k_steps <;> repeat' (first | ((k_here; k_dflt (refine wpAny_toks _ (Nat.le_refl _) (join_bs (by k_asm) (by k_mem) (by assumption) (by omega) ?_)); intro _ _ _) <;> k_steps) | ((k_here; k_dflt (refine' sorted_tups ?k1 ?k2 ?k3 ?k4 ?k5 ?k6 ?_; (case k1 => k_asm); (case k2 => k_asm); (case k3 => k_mem); (case k4 => omega); (case k5 => omega); (case k6 => assumption)); (intro D9z c9z p9z h9z F9z N9z l9z S9z); (have q9z := allLt_of l9z); (dsimp only [AllLt] at q9z); (have S8 := sorted_is S9z); (rw [S8] at N9z); (rename List.map _ _ = _ => hv9z); (rw [hv9z] at N9z); clear S8; (try dsimp only); (try k_fold)) <;> k_steps)))
  refine ⟨_, _, _, _, _, (fun j y => ∃ b t, (l.map (bitK ns))[j]? = some b ∧ y = Value.str (tx [b]) t), rfl, by k_asm, by k_asm, by k_mem, by omega, asg_three rfl (by rfl) (by rfl) (by rfl) (by rfl) (by decide) (by decide) (by decide) (TT ns ext) (ord_ht hO ?sub1), ?turn1, ?fin1⟩
  case sub1 => (intro p hp; (repeat (first | exact hp | refine List.mem_cons_of_mem _ ?_)))
  case turn1 =>
    intro j v I oI C oC D ys m₂ h tk E' hv hC hA F9 N9 htk9
    obtain ⟨x, y, z, hT, hW, hP, hK⟩ := hA
    obtain ⟨p, t1, t2, t3, hp, rfl, rfl, rfl⟩ := ord_turn N9 (ext := ext) (by intro p hp; (repeat (first | exact hp | refine List.mem_cons_of_mem _ ?_))) hO hv hT
    have kb := kq_lt (res ns p)
    have wb := wt_le (res ns p)
    replace kb : Kn ns p < 16 := kb
    replace wb : Wn ns p ≤ 18 := wb
    have c1 := k_bit (Kn ns p)
    have c2 : Kn ns p / 4 % 2 < 2 := Nat.mod_lt _ (by decide)
    try ((show let A0z := _; let Q0z := _; let E0z := _; wpAny _ A0z _ Q0z E0z _); intro A0z Q0z E0z)
    (k_steps <;> repeat' (first | ((k_here; k_dflt (refine wpAny_toks _ (Nat.le_refl _) (join_bs (by k_asm) (by k_mem) (by assumption) (by omega) ?_)); intro _ _ _) <;> k_steps) | ((k_here; k_dflt (refine' sorted_tups ?k1 ?k2 ?k3 ?k4 ?k5 ?k6 ?_; (case k1 => k_asm); (case k2 => k_asm); (case k3 => k_mem); (case k4 => omega); (case k5 => omega); (case k6 => assumption)); (intro D9z c9z p9z h9z F9z N9z l9z S9z); (have q9z := allLt_of l9z); (dsimp only [AllLt] at q9z); (have S8 := sorted_is S9z); (rw [S8] at N9z); (rename List.map _ _ = _ => hv9z); (rw [hv9z] at N9z); clear S8; (try dsimp only); (try k_fold)) <;> k_steps)))
    exact ⟨_, _, rfl, by k_asm, cb_drop (by k_asm) (fun p hp => by simp [hp]), ⟨bitK ns p, _, by rw [List.getElem?_map, hp]; rfl, congrArg (Value.str · _) (item_a c2)⟩⟩
  case fin1 =>
    intro ys1 got1 D1 h1 tk1 F1 N1 l1 htk1
    have q1 := allLt_of l1
    dsimp only [AllLt] at q1
    have hS1 := got_strs got1 (by rw [List.length_map]; omega)
    have hbl1 : (l.map (bitK ns)).length = l.length := List.length_map _
    try ((show let A0z := _; let Q0z := _; let E0z := _; wpAny _ A0z _ Q0z E0z _); intro A0z Q0z E0z)
    (k_steps <;> repeat' (first | ((k_here; k_dflt (refine wpAny_toks _ (Nat.le_refl _) (join_bs (by k_asm) (by k_mem) (by assumption) (by omega) ?_)); intro _ _ _) <;> k_steps) | ((k_here; k_dflt (refine' sorted_tups ?k1 ?k2 ?k3 ?k4 ?k5 ?k6 ?_; (case k1 => k_asm); (case k2 => k_asm); (case k3 => k_mem); (case k4 => omega); (case k5 => omega); (case k6 => assumption)); (intro D9z c9z p9z h9z F9z N9z l9z S9z); (have q9z := allLt_of l9z); (dsimp only [AllLt] at q9z); (have S8 := sorted_is S9z); (rw [S8] at N9z); (rename List.map _ _ = _ => hv9z); (rw [hv9z] at N9z); clear S8; (try dsimp only); (try k_fold)) <;> k_steps)))
    refine ⟨_, _, _, _, _, (fun j y => ∃ b t, (l.map (fun p => !bitK ns p))[j]? = some b ∧ y = Value.str (tx [b]) t), rfl, by k_asm, by k_asm, by k_mem, by omega, asg_three rfl (by rfl) (by rfl) (by rfl) (by rfl) (by decide) (by decide) (by decide) (TT ns ext) (ord_ht hO ?sub2), ?turn2, ?fin2⟩
    case sub2 => (intro p hp; (repeat (first | exact hp | refine List.mem_cons_of_mem _ ?_)))
    case turn2 =>
      intro j v I oI C oC D ys m₂ h tk E' hv hC hA F9 N9 htk9
      obtain ⟨x, y, z, hT, hW, hP, hK⟩ := hA
      obtain ⟨p, t1, t2, t3, hp, rfl, rfl, rfl⟩ := ord_turn N9 (ext := ext) (by intro p hp; (repeat (first | exact hp | refine List.mem_cons_of_mem _ ?_))) hO hv hT
      have kb := kq_lt (res ns p)
      have wb := wt_le (res ns p)
      replace kb : Kn ns p < 16 := kb
      replace wb : Wn ns p ≤ 18 := wb
      have c1 := k_bit (Kn ns p)
      have c2 : Kn ns p / 4 % 2 < 2 := Nat.mod_lt _ (by decide)
      try ((show let A0z := _; let Q0z := _; let E0z := _; wpAny _ A0z _ Q0z E0z _); intro A0z Q0z E0z)
      (k_steps <;> repeat' (first | ((k_here; k_dflt (refine wpAny_toks _ (Nat.le_refl _) (join_bs (by k_asm) (by k_mem) (by assumption) (by omega) ?_)); intro _ _ _) <;> k_steps) | ((k_here; k_dflt (refine' sorted_tups ?k1 ?k2 ?k3 ?k4 ?k5 ?k6 ?_; (case k1 => k_asm); (case k2 => k_asm); (case k3 => k_mem); (case k4 => omega); (case k5 => omega); (case k6 => assumption)); (intro D9z c9z p9z h9z F9z N9z l9z S9z); (have q9z := allLt_of l9z); (dsimp only [AllLt] at q9z); (have S8 := sorted_is S9z); (rw [S8] at N9z); (rename List.map _ _ = _ => hv9z); (rw [hv9z] at N9z); clear S8; (try dsimp only); (try k_fold)) <;> k_steps)))
      exact ⟨_, _, rfl, by k_asm, cb_drop (by k_asm) (fun p hp => by simp [hp]), ⟨!bitK ns p, _, by rw [List.getElem?_map, hp]; rfl, congrArg (Value.str · _) (item_b c2)⟩⟩
    case fin2 =>
      intro ys2 got2 D2 h2 tk2 F2 N2 l2 htk2
      have q2 := allLt_of l2
      dsimp only [AllLt] at q2
      have hS2 := got_strs got2 (by rw [List.length_map]; omega)
      have hbl2 : (l.map (fun p => !bitK ns p)).length = l.length := List.length_map _
      try ((show let A0z := _; let Q0z := _; let E0z := _; wpAny _ A0z _ Q0z E0z _); intro A0z Q0z E0z)
      (k_steps <;> repeat' (first | ((k_here; k_dflt (refine wpAny_toks _ (Nat.le_refl _) (join_bs (by k_asm) (by k_mem) (by assumption) (by omega) ?_)); intro _ _ _) <;> k_steps) | ((k_here; k_dflt (refine' sorted_tups ?k1 ?k2 ?k3 ?k4 ?k5 ?k6 ?_; (case k1 => k_asm); (case k2 => k_asm); (case k3 => k_mem); (case k4 => omega); (case k5 => omega); (case k6 => assumption)); (intro D9z c9z p9z h9z F9z N9z l9z S9z); (have q9z := allLt_of l9z); (dsimp only [AllLt] at q9z); (have S8 := sorted_is S9z); (rw [S8] at N9z); (rename List.map _ _ = _ => hv9z); (rw [hv9z] at N9z); clear S8; (try dsimp only); (try k_fold)) <;> k_steps)))
      refine ⟨_, _, _, _, _, (fun j y => ∃ (p : Nat) (t : Tok), l[j]? = some p ∧ y = Value.float (divI (Kn ns p : Int) 16) t ∧ 1 ≤ t), rfl, by k_asm, by k_asm, by k_mem, by omega, asg_three rfl (by rfl) (by rfl) (by rfl) (by rfl) (by decide) (by decide) (by decide) (TT ns ext) (ord_ht hO ?sub3), ?turn3, ?fin3⟩
      case sub3 => (intro p hp; (repeat (first | exact hp | refine List.mem_cons_of_mem _ ?_)))
      case turn3 =>
        intro j v I oI C oC D ys m₂ h tk E' hv hC hA F9 N9 htk9
        obtain ⟨x, y, z, hT, hW, hP, hK⟩ := hA
        obtain ⟨p, t1, t2, t3, hp, rfl, rfl, rfl⟩ := ord_turn N9 (ext := ext) (by intro p hp; (repeat (first | exact hp | refine List.mem_cons_of_mem _ ?_))) hO hv hT
        have kb := kq_lt (res ns p)
        have wb := wt_le (res ns p)
        replace kb : Kn ns p < 16 := kb
        replace wb : Wn ns p ≤ 18 := wb
        skip
        try ((show let A0z := _; let Q0z := _; let E0z := _; wpAny _ A0z _ Q0z E0z _); intro A0z Q0z E0z)
        (k_steps <;> repeat' (first | ((k_here; k_dflt (refine wpAny_toks _ (Nat.le_refl _) (join_bs (by k_asm) (by k_mem) (by assumption) (by omega) ?_)); intro _ _ _) <;> k_steps) | ((k_here; k_dflt (refine' sorted_tups ?k1 ?k2 ?k3 ?k4 ?k5 ?k6 ?_; (case k1 => k_asm); (case k2 => k_asm); (case k3 => k_mem); (case k4 => omega); (case k5 => omega); (case k6 => assumption)); (intro D9z c9z p9z h9z F9z N9z l9z S9z); (have q9z := allLt_of l9z); (dsimp only [AllLt] at q9z); (have S8 := sorted_is S9z); (rw [S8] at N9z); (rename List.map _ _ = _ => hv9z); (rw [hv9z] at N9z); clear S8; (try dsimp only); (try k_fold)) <;> k_steps)))
        exact ⟨_, _, rfl, by k_asm, cb_drop (by k_asm) (fun p hp => by simp [hp]), ⟨p, _, hp, rfl, by show @LE.le Nat _ _ _; dsimp only at *; omega⟩⟩
      case fin3 =>
        intro ys3 got3 D3 h3 tk3 F3 N3 l3 htk3
        have q3 := allLt_of l3
        dsimp only [AllLt] at q3
        have hF3 := got_flts (f := fun p => divI (Kn ns p : Int) 16) (by omega) got3
        have gl3 := got3.1
        try ((show let A0z := _; let Q0z := _; let E0z := _; wpAny _ A0z _ Q0z E0z _); intro A0z Q0z E0z)
        (k_steps <;> repeat' (first | ((k_here; k_dflt (refine wpAny_toks _ (Nat.le_refl _) (join_bs (by k_asm) (by k_mem) (by assumption) (by omega) ?_)); intro _ _ _) <;> k_steps) | ((k_here; k_dflt (refine' sorted_tups ?k1 ?k2 ?k3 ?k4 ?k5 ?k6 ?_; (case k1 => k_asm); (case k2 => k_asm); (case k3 => k_mem); (case k4 => omega); (case k5 => omega); (case k6 => assumption)); (intro D9z c9z p9z h9z F9z N9z l9z S9z); (have q9z := allLt_of l9z); (dsimp only [AllLt] at q9z); (have S8 := sorted_is S9z); (rw [S8] at N9z); (rename List.map _ _ = _ => hv9z); (rw [hv9z] at N9z); clear S8; (try dsimp only); (try k_fold)) <;> k_steps)))
        refine ⟨_, _, _, _, _, (fun j y => ∃ (p : Nat) (t : Tok), l[j]? = some p ∧ y = Value.float (divI (((2 * Kn ns p + 9) % 32 : Nat) : Int) 32) t ∧ 1 ≤ t), rfl, by k_asm, by k_asm, by k_mem, by omega, asg_three rfl (by rfl) (by rfl) (by rfl) (by rfl) (by decide) (by decide) (by decide) (TT ns ext) (ord_ht hO ?sub4), ?turn4, ?fin4⟩
        case sub4 => (intro p hp; (repeat (first | exact hp | refine List.mem_cons_of_mem _ ?_)))
        case turn4 =>
          intro j v I oI C oC D ys m₂ h tk E' hv hC hA F9 N9 htk9
          obtain ⟨x, y, z, hT, hW, hP, hK⟩ := hA
          obtain ⟨p, t1, t2, t3, hp, rfl, rfl, rfl⟩ := ord_turn N9 (ext := ext) (by intro p hp; (repeat (first | exact hp | refine List.mem_cons_of_mem _ ?_))) hO hv hT
          have kb := kq_lt (res ns p)
          have wb := wt_le (res ns p)
          replace kb : Kn ns p < 16 := kb
          replace wb : Wn ns p ≤ 18 := wb
          have c1 := k_two (Kn ns p)
          have c2 := k_two9 (Kn ns p)
          have c3 := k_mod32 (Kn ns p)
          try ((show let A0z := _; let Q0z := _; let E0z := _; wpAny _ A0z _ Q0z E0z _); intro A0z Q0z E0z)
          (k_steps <;> repeat' (first | ((k_here; k_dflt (refine wpAny_toks _ (Nat.le_refl _) (join_bs (by k_asm) (by k_mem) (by assumption) (by omega) ?_)); intro _ _ _) <;> k_steps) | ((k_here; k_dflt (refine' sorted_tups ?k1 ?k2 ?k3 ?k4 ?k5 ?k6 ?_; (case k1 => k_asm); (case k2 => k_asm); (case k3 => k_mem); (case k4 => omega); (case k5 => omega); (case k6 => assumption)); (intro D9z c9z p9z h9z F9z N9z l9z S9z); (have q9z := allLt_of l9z); (dsimp only [AllLt] at q9z); (have S8 := sorted_is S9z); (rw [S8] at N9z); (rename List.map _ _ = _ => hv9z); (rw [hv9z] at N9z); clear S8; (try dsimp only); (try k_fold)) <;> k_steps)))
          exact ⟨_, _, rfl, by k_asm, cb_drop (by k_asm) (fun p hp => by simp [hp]), ⟨p, _, hp, rfl, by show @LE.le Nat _ _ _; dsimp only at *; omega⟩⟩
        case fin4 =>
          intro ys4 got4 D4 h4 tk4 F4 N4 l4 htk4
          have q4 := allLt_of l4
          dsimp only [AllLt] at q4
          have hF4 := got_flts (f := fun p => divI (((2 * Kn ns p + 9) % 32 : Nat) : Int) 32) (by omega) got4
          have gl4 := got4.1
          try ((show let A0z := _; let Q0z := _; let E0z := _; wpAny _ A0z _ Q0z E0z _); intro A0z Q0z E0z)
          (k_steps <;> repeat' (first | ((k_here; k_dflt (refine wpAny_toks _ (Nat.le_refl _) (join_bs (by k_asm) (by k_mem) (by assumption) (by omega) ?_)); intro _ _ _) <;> k_steps) | ((k_here; k_dflt (refine' sorted_tups ?k1 ?k2 ?k3 ?k4 ?k5 ?k6 ?_; (case k1 => k_asm); (case k2 => k_asm); (case k3 => k_mem); (case k4 => omega); (case k5 => omega); (case k6 => assumption)); (intro D9z c9z p9z h9z F9z N9z l9z S9z); (have q9z := allLt_of l9z); (dsimp only [AllLt] at q9z); (have S8 := sorted_is S9z); (rw [S8] at N9z); (rename List.map _ _ = _ => hv9z); (rw [hv9z] at N9z); clear S8; (try dsimp only); (try k_fold)) <;> k_steps)))
          have hO2 := hO.rev
          have hr1 := hO2.1
          have hr2 : l.reverse.length = l.length := List.length_reverse
          refine ⟨_, vs.reverse, _, _, _, (fun j y => ∃ (p : Nat) (t : Tok), l.reverse[j]? = some p ∧ y = Value.float (divI (((Kn ns p + 8) % 16 : Nat) : Int) 16) t ∧ 1 ≤ t), rfl, by k_asm, by k_asm, by rw [← rev_pick vs]; k_mem, by omega, asg_three rfl (by rfl) (by rfl) (by rfl) (by rfl) (by decide) (by decide) (by decide) (TT ns ext) (ord_ht hO2 ?sub5), ?turn5, ?fin5⟩
          case sub5 => (intro p hp; (repeat (first | exact hp | refine List.mem_cons_of_mem _ ?_)))
          case turn5 =>
            intro j v I oI C oC D ys m₂ h tk E' hv hC hA F9 N9 htk9
            obtain ⟨x, y, z, hT, hW, hP, hK⟩ := hA
            obtain ⟨p, t1, t2, t3, hp, rfl, rfl, rfl⟩ := ord_turn N9 (ext := ext) (by intro p hp; (repeat (first | exact hp | refine List.mem_cons_of_mem _ ?_))) hO2 hv hT
            have kb := kq_lt (res ns p)
            have wb := wt_le (res ns p)
            replace kb : Kn ns p < 16 := kb
            replace wb : Wn ns p ≤ 18 := wb
            have c1 := k_add8 (Kn ns p)
            have c2 := k_mod16 (Kn ns p)
            try ((show let A0z := _; let Q0z := _; let E0z := _; wpAny _ A0z _ Q0z E0z _); intro A0z Q0z E0z)
            (k_steps <;> repeat' (first | ((k_here; k_dflt (refine wpAny_toks _ (Nat.le_refl _) (join_bs (by k_asm) (by k_mem) (by assumption) (by omega) ?_)); intro _ _ _) <;> k_steps) | ((k_here; k_dflt (refine' sorted_tups ?k1 ?k2 ?k3 ?k4 ?k5 ?k6 ?_; (case k1 => k_asm); (case k2 => k_asm); (case k3 => k_mem); (case k4 => omega); (case k5 => omega); (case k6 => assumption)); (intro D9z c9z p9z h9z F9z N9z l9z S9z); (have q9z := allLt_of l9z); (dsimp only [AllLt] at q9z); (have S8 := sorted_is S9z); (rw [S8] at N9z); (rename List.map _ _ = _ => hv9z); (rw [hv9z] at N9z); clear S8; (try dsimp only); (try k_fold)) <;> k_steps)))
            exact ⟨_, _, rfl, by k_asm, cb_drop (by k_asm) (fun p hp => by simp [hp]), ⟨p, _, hp, rfl, by show @LE.le Nat _ _ _; dsimp only at *; omega⟩⟩
          case fin5 =>
            intro ys5 got5 D5 h5 tk5 F5 N5 l5 htk5
            have q5 := allLt_of l5
            dsimp only [AllLt] at q5
            have hF5 := got_flts (f := fun p => divI (((Kn ns p + 8) % 16 : Nat) : Int) 16) (by omega) got5
            have gl5 := got5.1
            try ((show let A0z := _; let Q0z := _; let E0z := _; wpAny _ A0z _ Q0z E0z _); intro A0z Q0z E0z)
            (k_steps <;> repeat' (first | ((k_here; k_dflt (refine wpAny_toks _ (Nat.le_refl _) (join_bs (by k_asm) (by k_mem) (by assumption) (by omega) ?_)); intro _ _ _) <;> k_steps) | ((k_here; k_dflt (refine' sorted_tups ?k1 ?k2 ?k3 ?k4 ?k5 ?k6 ?_; (case k1 => k_asm); (case k2 => k_asm); (case k3 => k_mem); (case k4 => omega); (case k5 => omega); (case k6 => assumption)); (intro D9z c9z p9z h9z F9z N9z l9z S9z); (have q9z := allLt_of l9z); (dsimp only [AllLt] at q9z); (have S8 := sorted_is S9z); (rw [S8] at N9z); (rename List.map _ _ = _ => hv9z); (rw [hv9z] at N9z); clear S8; (try dsimp only); (try k_fold)) <;> k_steps)))
            have N9 := Del.news (Del.of 1 rfl) N5
            dsimp only [List.eraseIdx_cons_succ, List.eraseIdx_cons_zero] at N9
            replace N9 := fun p hp => N9 p (List.mem_cons_of_mem _ hp)
            have N10 := Del.news (c := L + 1 + 1) (o := o2) (Del.of 11 rfl) N9
            dsimp only [List.eraseIdx_cons_succ, List.eraseIdx_cons_zero] at N10
            exact next _ _ _ _ _ _ _ _ _ _ _ _ _ _ _ _ _ _ _ F5 rfl rfl rfl rfl rfl rfl rfl rfl N10 (by k_all) (by assumption) (by repeat (first | exact List.mem_cons_self | refine List.mem_cons_of_mem _ ?_)) (by repeat (first | exact List.mem_cons_self | refine List.mem_cons_of_mem _ ?_)) (by repeat (first | exact List.mem_cons_self | refine List.mem_cons_of_mem _ ?_)) (by repeat (first | exact List.mem_cons_self | refine List.mem_cons_of_mem _ ?_)) (by repeat (first | exact List.mem_cons_self | refine List.mem_cons_of_mem _ ?_)) (by repeat (first | exact List.mem_cons_self | refine List.mem_cons_of_mem _ ?_)) (by repeat (first | exact List.mem_cons_self | refine List.mem_cons_of_mem _ ?_)) (by repeat (first | exact List.mem_cons_self | refine List.mem_cons_of_mem _ ?_)) (by intro p hp; repeat (first | exact hp | refine List.mem_cons_of_mem _ ?_)) hF3 hF4 hF5 hO (by show @LE.le Nat _ _ _; dsimp only at *; omega)
end
end Mine

end PartPLaw2
section DryPLaw3
local macro_rules | `(tactic| walk_at "z0") => `(tactic| skip)
theorem Mine.offPLaw3 : True := by
  w_top off
  k_with_none
  try walk1
  trivial
end DryPLaw3
section PartPLaw3
open PySem PySem.W PyProof.Rows
set_option maxRecDepth 100000
set_option maxHeartbeats 3000000
set_option linter.unusedSectionVars false
open PySem.Flt
namespace Mine

section
variable {w : World} {mean : ExcName → Option Value} {mg mb : Str → Option Value} {dp un : Nat} {gd : Option (List Code)} {a : Addr} {ccd : Value} {outer : List Env} {A₀ : Around} {base h₀ : Heap} {L : Addr} {s : Shared} {Q : Flow → Shared → Prop} {E : Value → Shared → Prop} {m : Str → Option Value}
 (B : Below A₀ base outer h₀) (X : (Mine.hd.heap_1 w.params).In h₀)
 (T : Top Mine.hd.view_1 (looseW Mine.hd.view_1 [Str.ofString "insort_right", Str.ofString "bisect_right", Str.ofString "insort_left", Str.ofString "bisect_left", Str.ofString "Whitespace"]) mean mg mb h₀) (hd : dp + 5 < recursionLimit) (hu : un + 120 < cLine)
 (hE : PassesOwn (model PySem.Challenge.rw_sc0103_01.row.prog w) (lawA dp un gd L a ccd outer) (lawE L a ccd) E)
include B X T hd hu hE

noncomputable def RowT (led : List (Addr × Obj)) (_v x y z : Value) : Prop := ∃ (R H : Addr) (vs ys : List Value) (k1 k2 : Nat) (ll : List Nat) (f : Nat → UInt64) (b : Nat → Bool) (t : Tok), x = Value.ref R ∧ y = Value.ref H ∧ z = Value.str (tx (ll.map b)) t ∧ (R, listO vs k1) ∈ led ∧ (H, listO ys k2) ∈ led ∧ ColsAre led vs (RH ll f) ∧ FltsT ys ll f ∧ SignF f b ∧ SelfF f ∧ vs.length = ll.length ∧ ll.length ≤ 6
theorem law_c3 {vp vt vg ys3 ys4 ys5 : List Value} {kp kt kg k3 k4 k5 : Nat} {P T0 G D3 D4 D5 D9 : Addr} {o1 o2 : Obj} {ns : List Int} {rest : List (Addr × Obj)} {m' : Str → Option Value} {l : List Nat} {t1 t2 : Tok}
 (F : Fr h₀ L s.heap (fun y => if y = Str.ofString "plain" then some (.ref P) else if y = Str.ofString "turned" then some (.ref T0) else if y = Str.ofString "against" then some (.ref G) else if y = Str.ofString "other" then some (.str (tx (l.map fun p => !bitK ns p)) t2) else if y = Str.ofString "first" then some (.ref D3) else if y = Str.ofString "second" then some (.ref D4) else if y = Str.ofString "third" then some (.ref D5) else if y = Str.ofString "order" then some (.ref D9) else m' y))
 (N : News h₀ L s.heap ((L + 1 + 1, o2) :: (L + 1, o1) :: (D3, listO ys3 k3) :: (D4, listO ys4 k4) :: (D5, listO ys5 k5) :: (P, listO vp kp) :: (T0, listO vt kt) :: (G, listO vg kg) :: rest)) (d1 : o1.data = .cell (some (.str (tx (l.map (bitK ns))) t1)))
 (f3 : FltsT ys3 l (fP ns)) (f4 : FltsT ys4 l (fT ns)) (f5 : FltsT ys5 l.reverse (fG ns)) (cP : ColsAre rest vp (RH l (fP ns))) (cT : ColsAre rest vt (RH l (fT ns))) (cG : ColsAre rest vg (RH l.reverse (fG ns)))
 (lP : vp.length = l.length) (lT : vt.length = l.length) (lG : vg.length = l.reverse.length) (h4 : 4 ≤ l.length) (h6 : l.length ≤ 6) (htk : @LE.le Nat _ 1 s.toks)
 (next : ∀ (h : Heap) (tk : Nat) (u3 : Str → Option Value), Fr h₀ L h (mapS [Str.ofString "row", Str.ofString "hues", Str.ofString "signs", Str.ofString "told"] u3 (fun y => if y = Str.ofString "plain" then some (.ref P) else if y = Str.ofString "turned" then some (.ref T0) else if y = Str.ofString "against" then some (.ref G) else if y = Str.ofString "other" then some (.str (tx (l.map fun p => !bitK ns p)) t2) else if y = Str.ofString "first" then some (.ref D3) else if y = Str.ofString "second" then some (.ref D4) else if y = Str.ofString "third" then some (.ref D5) else if y = Str.ofString "order" then some (.ref D9) else m' y) []) → News h₀ L h ((L + 1 + 1, o2) :: (L + 1, o1) :: (D3, listO ys3 k3) :: (D4, listO ys4 k4) :: (D5, listO ys5 k5) :: (P, listO vp kp) :: (T0, listO vt kt) :: (G, listO vg kg) :: rest) → @LE.le Nat _ 1 tk →
  wpAny (model PySem.Challenge.rw_sc0103_01.row.prog w) (lawA dp un gd L a ccd outer) (execs (lawD.body.drop 14) (lawE L a ccd)) Q E { s with heap := h, toks := tk })
 : wpAny (model PySem.Challenge.rw_sc0103_01.row.prog w) (lawA dp un gd L a ccd outer) (execs (lawD.body.drop 13) (lawE L a ccd)) Q E s := by
  have x1 := signP ns
  have x2 := signT ns
  have x3 := signG ns
  have y1 := selfP ns
  have y2 := selfT ns
  have y3 := selfG ns
  have b1 := f3.1
  have b2 := f4.1
  have b3 := f5.1
  have b4 : l.reverse.length = l.length := List.length_reverse
  have e14 : lawD.body.drop 13 = _ :: lawD.body.drop 14 := rfl
  rw [e14]
  clear e14
  generalize lawD.body.drop 14 = rest14 at next ⊢
  unfold lawE at next hE ⊢
  (k_steps <;> repeat' (first | ((k_here; (with_reducible show wpAny _ _ (call (Value.ref 168) [_]) _ _ _); k_dflt (refine wpAny_toks _ (Nat.le_refl _) ?_; refine' signs_c ?k1 ?k2 ?k3 ?k4 ?k5 ?kK ?kd ?ku ?hl ?hn ?hc ?hbs ?_; (case k1 => k_asm); (case k2 => k_asm); (case k3 => k_asm); (case k4 => k_asm); (case k5 => k_asm); (case kK => first | exact rfl | assumption); (case kd => ktr_room); (case ku => ktr_units); (case hl => k_mem); (case hn => omega); (case hc => exact signs_of (by assumption) (by assumption)); (case hbs => (rw [List.length_map]; omega))); (intro t9z h9z tk9z F9z N9z htk9z); (try dsimp only); (try k_fold)) <;> k_steps) | ((k_here; (with_reducible show wpAny _ _ (call (Value.ref 163) [_]) _ _ _); k_dflt (refine wpAny_toks _ (Nat.le_refl _) ?_; refine' hues_c ?k1 ?k2 ?k3 ?k4 ?k5 ?kK ?kd ?ku ?hl ?hn ?hc ?_; (case k1 => k_asm); (case k2 => k_asm); (case k3 => k_asm); (case k4 => k_asm); (case k5 => k_asm); (case kK => first | exact rfl | assumption); (case kd => ktr_room); (case ku => ktr_units); (case hl => (repeat (first | assumption | exact List.mem_cons_self | refine List.mem_cons_of_mem _ ?_))); (case hn => omega); (case hc => exact cols_mono (by assumption) (by intro p hp; (repeat (first | exact hp | refine List.mem_cons_of_mem _ ?_))))); (intro D9z ys9z h9z tk9z F9z N9z l9z G9z htk9z); (have V9z := hues_of (by dsimp only at *; omega) (by assumption) G9z); (have q9z := allLt_of l9z); (dsimp only [AllLt] at q9z); (have V8 := V9z.1); (try dsimp only); (try k_fold)) <;> k_steps)))
  refine for_tup (sto := [Str.ofString "row", Str.ofString "hues", Str.ofString "signs", Str.ofString "told"]) rfl hE (by k_asm) (by k_asm) (by k_mem) (asgF_three rfl (by rfl) (by rfl) (by rfl) (by rfl) (RowT ((L + 1 + 1, o2) :: (L + 1, o1) :: (D3, listO ys3 k3) :: (D4, listO ys4 k4) :: (D5, listO ys5 k5) :: (P, listO vp kp) :: (T0, listO vt kt) :: (G, listO vg kg) :: rest)) ?ht) ?hoff ?step ?fin
  case ht =>
    intro v hv
    simp only [List.mem_cons, List.not_mem_nil, or_false] at hv
    rcases hv with rfl | rfl | rfl
    · exact ⟨_, _, _, _, rfl, by k_mem, P, D3, vp, ys3, kp, k3, l, fP ns, bitK ns, _, rfl, rfl, rfl, by (repeat (first | exact List.mem_cons_self | refine List.mem_cons_of_mem _ ?_)), by (repeat (first | exact List.mem_cons_self | refine List.mem_cons_of_mem _ ?_)), cols_mono cP (by (intro p hp; (repeat (first | exact hp | refine List.mem_cons_of_mem _ ?_)))), f3, x1, y1, lP, h6⟩
    · exact ⟨_, _, _, _, rfl, by k_mem, T0, D4, vt, ys4, kt, k4, l, fT ns, _, _, rfl, rfl, rfl, by (repeat (first | exact List.mem_cons_self | refine List.mem_cons_of_mem _ ?_)), by (repeat (first | exact List.mem_cons_self | refine List.mem_cons_of_mem _ ?_)), cols_mono cT (by (intro p hp; (repeat (first | exact hp | refine List.mem_cons_of_mem _ ?_)))), f4, x2, y2, lT, h6⟩
    · exact ⟨_, _, _, _, rfl, by k_mem, G, D5, vg, ys5, kg, k5, l.reverse, fG ns, bitK ns, _, rfl, rfl, rfl, by (repeat (first | exact List.mem_cons_self | refine List.mem_cons_of_mem _ ?_)), by (repeat (first | exact List.mem_cons_self | refine List.mem_cons_of_mem _ ?_)), cols_mono cG (by (intro p hp; (repeat (first | exact hp | refine List.mem_cons_of_mem _ ?_)))), f5, x3, y3, lG, by omega⟩
  case hoff =>
    rintro v m₁ m₂ ⟨x, y, z, _, rfl⟩ so z' h1 h2
    have h3 := so z' h1 h2
    simp only [List.contains_cons, List.contains_nil, Bool.or_false, Bool.or_eq_false_iff, beq_eq_false_iff_ne, ne_eq] at h2
    simp only [h2, if_false]
    exact h3
  case step =>
    intro v m₁ m₂ It oI h tk hv so hA off F9 N9 htk9
    obtain ⟨x, y, z, ⟨R, H, vsR, ysH, kR, kH, ll, f, b, t, rfl, rfl, rfl, hR, hH, hcR, hfH, hsf, hse, hlR, hl6⟩, rfl⟩ := hA
    have hl5 := hfH.1
    rw [← mapS_same so] at F9
    (k_steps <;> repeat' (first | ((k_here; (with_reducible show wpAny _ _ (call (Value.ref 168) [_]) _ _ _); k_dflt (refine wpAny_toks _ (Nat.le_refl _) ?_; refine' signs_c ?k1 ?k2 ?k3 ?k4 ?k5 ?kK ?kd ?ku ?hl ?hn ?hc ?hbs ?_; (case k1 => k_asm); (case k2 => k_asm); (case k3 => k_asm); (case k4 => k_asm); (case k5 => k_asm); (case kK => first | exact rfl | assumption); (case kd => ktr_room); (case ku => ktr_units); (case hl => k_mem); (case hn => omega); (case hc => exact signs_of (by assumption) (by assumption)); (case hbs => (rw [List.length_map]; omega))); (intro t9z h9z tk9z F9z N9z htk9z); (try dsimp only); (try k_fold)) <;> k_steps) | ((k_here; (with_reducible show wpAny _ _ (call (Value.ref 163) [_]) _ _ _); k_dflt (refine wpAny_toks _ (Nat.le_refl _) ?_; refine' hues_c ?k1 ?k2 ?k3 ?k4 ?k5 ?kK ?kd ?ku ?hl ?hn ?hc ?_; (case k1 => k_asm); (case k2 => k_asm); (case k3 => k_asm); (case k4 => k_asm); (case k5 => k_asm); (case kK => first | exact rfl | assumption); (case kd => ktr_room); (case ku => ktr_units); (case hl => (repeat (first | assumption | exact List.mem_cons_self | refine List.mem_cons_of_mem _ ?_))); (case hn => omega); (case hc => exact cols_mono (by assumption) (by intro p hp; (repeat (first | exact hp | refine List.mem_cons_of_mem _ ?_))))); (intro D9z ys9z h9z tk9z F9z N9z l9z G9z htk9z); (have V9z := hues_of (by dsimp only at *; omega) (by assumption) G9z); (have q9z := allLt_of l9z); (dsimp only [AllLt] at q9z); (have V8 := V9z.1); (try dsimp only); (try k_fold)) <;> k_steps)))
    all_goals exact ⟨_, _, _, rfl, by k_asm, cb_drop (by k_asm) (fun p hp => List.mem_cons_of_mem _ hp), by (intro z h2 h3; (have h3' := h3); (simp only [List.forall_mem_cons, List.not_mem_nil, false_implies, implies_true, and_true, ne_eq] at h2); (simp only [List.contains_cons, List.contains_nil, Bool.or_false, Bool.or_eq_false_iff, beq_eq_false_iff_ne, ne_eq] at h3); simp only [mapS, kstB, h2, h3, h3', if_false, Bool.false_eq_true])⟩
  case fin =>
    intro h tk m9 F9 N9 so htk9
    rw [← mapS_same so] at F9
    exact next _ _ _ F9 (cb_drop N9 (by (intro p hp; (repeat (first | exact hp | refine List.mem_cons_of_mem _ ?_))))) (by dsimp only at *; omega)
end
end Mine

end PartPLaw3
section DryPLaw4
local macro_rules | `(tactic| walk_at "z0") => `(tactic| skip)
theorem Mine.offPLaw4 : True := by
  w_top off
  k_with_none
  try walk1
  trivial
end DryPLaw4
section PartPLaw4
open PySem PySem.W PyProof.Rows
set_option maxRecDepth 100000
set_option maxHeartbeats 3000000
set_option linter.unusedSectionVars false
open PySem.Flt
namespace Mine



section
variable {w : World} {mean : ExcName → Option Value} {mg mb : Str → Option Value} {dp un : Nat} {gd : Option (List Code)} {a : Addr} {ccd : Value} {outer : List Env} {A₀ : Around} {base h₀ : Heap} {L : Addr} {s : Shared} {Q : Flow → Shared → Prop} {E : Value → Shared → Prop} {m : Str → Option Value}
 (B : Below A₀ base outer h₀) (X : (Mine.hd.heap_1 w.params).In h₀)
 (T : Top Mine.hd.view_1 (looseW Mine.hd.view_1 [Str.ofString "insort_right", Str.ofString "bisect_right", Str.ofString "insort_left", Str.ofString "bisect_left", Str.ofString "Whitespace"]) mean mg mb h₀) (hd : dp + 5 < recursionLimit) (hu : un + 120 < cLine)
 (hE : PassesOwn (model PySem.Challenge.rw_sc0103_01.row.prog w) (lawA dp un gd L a ccd outer) (lawE L a ccd) E)
include B X T hd hu hE

theorem law_c4 {vp vg vs : List Value} {kp kg c9 : Nat} {P G D9 : Addr} {o1 o2 : Obj} {ns : List Int} {rest ext : List (Addr × Obj)} {m' : Str → Option Value} {l : List Nat} {v2 : Option Value}
 (F : Fr h₀ L s.heap (fun y => if y = Str.ofString "plain" then some (.ref P) else if y = Str.ofString "against" then some (.ref G) else if y = Str.ofString "order" then some (.ref D9) else m' y))
 (N : News h₀ L s.heap ((L + 1 + 1, o2) :: (L + 1, o1) :: (P, listO vp kp) :: (G, listO vg kg) :: (D9, listO vs c9) :: rest)) (d2 : o2.data = .cell v2) (hx : ∀ p ∈ ext, p ∈ rest) (hO : OrdS ns ext vs l)
 (m1 : @Ne Nat P (L + 1 + 1)) (m2 : @Ne Nat G (L + 1 + 1)) (m3 : @Ne Nat D9 (L + 1 + 1)) (m4 : ∀ p ∈ rest, p.1 ≠ L + 1 + 1)
 (cP : ColsAre rest vp (RL l (fL ns))) (cG : ColsAre rest vg (RL l.reverse (fN ns)))
 (lP : vp.length = l.length) (lG : vg.length = l.reverse.length) (h4 : 4 ≤ l.length) (h6 : l.length ≤ 6) (htk : @LE.le Nat _ 1 s.toks)
 (next : ∀ (h : Heap) (tk : Nat) (DL : Addr) (ysL : List Value) (kL : Nat) (o2' : Obj), Fr h₀ L h (fun y => if y = Str.ofString "plain" then some (.ref P) else if y = Str.ofString "against" then some (.ref G) else if y = Str.ofString "order" then some (.ref D9) else m' y) → o2'.data = .cell (some (.ref DL)) → News h₀ L h ((DL, listO ysL kL) :: (L + 1 + 1, o2') :: (L + 1, o1) :: (D9, listO vs c9) :: rest) → FltsT ysL l (fL ns) →
  wpAny (model PySem.Challenge.rw_sc0103_01.row.prog w) (lawA dp un gd L a ccd outer) (execs (lawD.body.drop 17) (lawE L a ccd)) Q E { s with heap := h, toks := tk })
 : wpAny (model PySem.Challenge.rw_sc0103_01.row.prog w) (lawA dp un gd L a ccd outer) (execs (lawD.body.drop 14) (lawE L a ccd)) Q E s := by
  have y1 := selfL ns
  have y2 := selfN ns
  have b4 : l.reverse.length = l.length := List.length_reverse
  have hol := hO.1
  have e17 : lawD.body.drop 14 = _ :: _ :: _ :: lawD.body.drop 17 := rfl
  rw [e17]
  clear e17
  generalize lawD.body.drop 17 = rest17 at next ⊢
  unfold lawE at next hE ⊢
  (k_steps <;> repeat' (first | ((k_here; (with_reducible show wpAny _ _ (call (Value.ref 158) [_]) _ _ _); k_dflt (refine wpAny_toks _ (Nat.le_refl _) ?_; refine' light_c ?k1 ?k2 ?k3 ?k4 ?k5 ?kK ?kd ?ku ?hm ?ok ?_; (case k1 => k_asm); (case k2 => k_asm); (case k3 => k_asm); (case k4 => k_asm); (case k5 => k_asm); (case kK => first | exact rfl | assumption); (case kd => ktr_room); (case ku => ktr_units); (case hm => (repeat (first | assumption | exact List.mem_cons_self | refine List.mem_cons_of_mem _ ?_))); (case ok => assumption)); (intro t9z h9z tk9z F9z N9z q9z htk9z); (try dsimp only); (try k_fold)) <;> k_steps)))
  refine ⟨_, vp, _, _, _, (fun j y => ∃ (p : Nat) (t : Tok), l[j]? = some p ∧ y = Value.float (fL ns p) t ∧ 1 ≤ t), rfl, by k_asm, by k_asm, by k_mem, by omega, asg_name (by rfl) (by rfl), ?turn1, ?fin1⟩
  case turn1 =>
    intro j v I oI C oC D ys m₂ h tk E' hv hC hA F9 N9 htk9
    obtain ⟨c, t1, t2, t3, r, g, b, e, hm, ok, p, hp, hlp⟩ := cP j (by rcases List.getElem?_eq_some_iff.mp hv with ⟨q, _⟩; exact q)
    rw [hv] at e; cases e
    (k_steps <;> repeat' (first | ((k_here; (with_reducible show wpAny _ _ (call (Value.ref 158) [_]) _ _ _); k_dflt (refine wpAny_toks _ (Nat.le_refl _) ?_; refine' light_c ?k1 ?k2 ?k3 ?k4 ?k5 ?kK ?kd ?ku ?hm ?ok ?_; (case k1 => k_asm); (case k2 => k_asm); (case k3 => k_asm); (case k4 => k_asm); (case k5 => k_asm); (case kK => first | exact rfl | assumption); (case kd => ktr_room); (case ku => ktr_units); (case hm => (repeat (first | assumption | exact List.mem_cons_self | refine List.mem_cons_of_mem _ ?_))); (case ok => assumption)); (intro t9z h9z tk9z F9z N9z q9z htk9z); (try dsimp only); (try k_fold)) <;> k_steps)))
    exact ⟨_, _, rfl, by k_asm, cb_drop (by k_asm) (fun p hp => by first | exact hp | exact List.mem_cons_of_mem _ hp), ⟨p, _, hp, by rw [hlp], by show @LE.le Nat _ _ _; dsimp only at *; omega⟩⟩
  case fin1 =>
    intro ys1 got1
    have hF1 := got_flts (f := fL ns) (by omega) got1
    have gl1 := hF1.1
    intro D1 h1 tk1 F1 N1 l1 htk1
    have q1 := allLt_of l1
    dsimp only [AllLt] at q1
    (k_steps <;> repeat' (first | ((k_here; (with_reducible show wpAny _ _ (call (Value.ref 158) [_]) _ _ _); k_dflt (refine wpAny_toks _ (Nat.le_refl _) ?_; refine' light_c ?k1 ?k2 ?k3 ?k4 ?k5 ?kK ?kd ?ku ?hm ?ok ?_; (case k1 => k_asm); (case k2 => k_asm); (case k3 => k_asm); (case k4 => k_asm); (case k5 => k_asm); (case kK => first | exact rfl | assumption); (case kd => ktr_room); (case ku => ktr_units); (case hm => (repeat (first | assumption | exact List.mem_cons_self | refine List.mem_cons_of_mem _ ?_))); (case ok => assumption)); (intro t9z h9z tk9z F9z N9z q9z htk9z); (try dsimp only); (try k_fold)) <;> k_steps)))
    refine ⟨_, _, _, _, _, (fun j y => ∃ (p : Nat) (t : Tok), l[j]? = some p ∧ y = Value.float (fL ns p) t ∧ 1 ≤ t), rfl, by k_asm, by k_asm, by k_mem, by omega, asg_three rfl (by rfl) (by rfl) (by rfl) (by rfl) (by decide) (by decide) (by decide) (TT ns ext) (ord_ht hO ?sub2), ?turn2, ?fin2⟩
    case sub2 => (intro p hp; (repeat (first | exact hx _ hp | exact hp | refine List.mem_cons_of_mem _ ?_)))
    case turn2 =>
      intro j v I oI C oC D ys m₂ h tk E' hv hC hA F9 N9 htk9
      obtain ⟨x, y, z, hT, hW, hP, hK⟩ := hA
      obtain ⟨p, t1, t2, t3, hp, rfl, rfl, rfl⟩ := ord_turn N9 (ext := ext) (by intro p hp; (repeat (first | exact hx _ hp | exact hp | refine List.mem_cons_of_mem _ ?_))) hO hv hT
      have kb := kq_lt (res ns p)
      have wb := wt_le (res ns p)
      replace kb : Kn ns p < 16 := kb
      replace wb : Wn ns p ≤ 18 := wb
      skip
      (k_steps <;> repeat' (first | ((k_here; (with_reducible show wpAny _ _ (call (Value.ref 158) [_]) _ _ _); k_dflt (refine wpAny_toks _ (Nat.le_refl _) ?_; refine' light_c ?k1 ?k2 ?k3 ?k4 ?k5 ?kK ?kd ?ku ?hm ?ok ?_; (case k1 => k_asm); (case k2 => k_asm); (case k3 => k_asm); (case k4 => k_asm); (case k5 => k_asm); (case kK => first | exact rfl | assumption); (case kd => ktr_room); (case ku => ktr_units); (case hm => (repeat (first | assumption | exact List.mem_cons_self | refine List.mem_cons_of_mem _ ?_))); (case ok => assumption)); (intro t9z h9z tk9z F9z N9z q9z htk9z); (try dsimp only); (try k_fold)) <;> k_steps)))
      exact ⟨_, _, rfl, by k_asm, cb_drop (by k_asm) (fun p hp => by simp [hp]), ⟨p, _, hp, rfl, by show @LE.le Nat _ _ _; dsimp only at *; omega⟩⟩
    case fin2 =>
      intro ys2 got2 D2 h2 tk2 F2 N2 l2 htk2
      have q2 := allLt_of l2
      dsimp only [AllLt] at q2
      have hF2 := got_flts (f := fL ns) (by omega) got2
      have gl2 := got2.1
      (k_steps <;> repeat' (first | ((k_here; (with_reducible show wpAny _ _ (call (Value.ref 158) [_]) _ _ _); k_dflt (refine wpAny_toks _ (Nat.le_refl _) ?_; refine' light_c ?k1 ?k2 ?k3 ?k4 ?k5 ?kK ?kd ?ku ?hm ?ok ?_; (case k1 => k_asm); (case k2 => k_asm); (case k3 => k_asm); (case k4 => k_asm); (case k5 => k_asm); (case kK => first | exact rfl | assumption); (case kd => ktr_room); (case ku => ktr_units); (case hm => (repeat (first | assumption | exact List.mem_cons_self | refine List.mem_cons_of_mem _ ?_))); (case ok => assumption)); (intro t9z h9z tk9z F9z N9z q9z htk9z); (try dsimp only); (try k_fold)) <;> k_steps)))
      refine ⟨_, vg, _, _, _, (fun j y => ∃ (p : Nat) (t : Tok), l.reverse[j]? = some p ∧ y = Value.float (fN ns p) t ∧ 1 ≤ t), rfl, by k_asm, by k_asm, by k_mem, by omega, asg_name (by rfl) (by rfl), ?turn3, ?fin3⟩
      case turn3 =>
        intro j v I oI C oC D ys m₂ h tk E' hv hC hA F9 N9 htk9
        obtain ⟨c, t1, t2, t3, r, g, b, e, hm, ok, p, hp, hlp⟩ := cG j (by rcases List.getElem?_eq_some_iff.mp hv with ⟨q, _⟩; exact q)
        rw [hv] at e; cases e
        (k_steps <;> repeat' (first | ((k_here; (with_reducible show wpAny _ _ (call (Value.ref 158) [_]) _ _ _); k_dflt (refine wpAny_toks _ (Nat.le_refl _) ?_; refine' light_c ?k1 ?k2 ?k3 ?k4 ?k5 ?kK ?kd ?ku ?hm ?ok ?_; (case k1 => k_asm); (case k2 => k_asm); (case k3 => k_asm); (case k4 => k_asm); (case k5 => k_asm); (case kK => first | exact rfl | assumption); (case kd => ktr_room); (case ku => ktr_units); (case hm => (repeat (first | assumption | exact List.mem_cons_self | refine List.mem_cons_of_mem _ ?_))); (case ok => assumption)); (intro t9z h9z tk9z F9z N9z q9z htk9z); (try dsimp only); (try k_fold)) <;> k_steps)))
        exact ⟨_, _, rfl, by k_asm, cb_drop (by k_asm) (fun p hp => by first | exact hp | exact List.mem_cons_of_mem _ hp), ⟨p, _, hp, by rw [hlp], by show @LE.le Nat _ _ _; dsimp only at *; omega⟩⟩
      case fin3 =>
        intro ys3 got3
        intro D3 h3 tk3 F3 N3 l3 htk3
        have q3 := allLt_of l3
        dsimp only [AllLt] at q3
        have hF3 := got_flts (f := fN ns) (by omega) got3
        have gl3 := hF3.1
        (k_steps <;> repeat' (first | ((k_here; (with_reducible show wpAny _ _ (call (Value.ref 158) [_]) _ _ _); k_dflt (refine wpAny_toks _ (Nat.le_refl _) ?_; refine' light_c ?k1 ?k2 ?k3 ?k4 ?k5 ?kK ?kd ?ku ?hm ?ok ?_; (case k1 => k_asm); (case k2 => k_asm); (case k3 => k_asm); (case k4 => k_asm); (case k5 => k_asm); (case kK => first | exact rfl | assumption); (case kd => ktr_room); (case ku => ktr_units); (case hm => (repeat (first | assumption | exact List.mem_cons_self | refine List.mem_cons_of_mem _ ?_))); (case ok => assumption)); (intro t9z h9z tk9z F9z N9z q9z htk9z); (try dsimp only); (try k_fold)) <;> k_steps)))
        have hR4 := hF1.rev
        have gl4 := hR4.1
        refine ⟨_, ys1.reverse, _, _, _, (fun j y => ∃ (p : Nat) (t : Tok), l.reverse[j]? = some p ∧ y = Value.float (fN ns p) t ∧ 1 ≤ t), rfl, by k_asm, by k_asm, by rw [← rev_pick ys1]; k_mem, by omega, asg_name (by rfl) (by rfl), ?turn4, ?fin4⟩
        case turn4 =>
          intro j v I oI C oC D ys m₂ h tk E' hv hC hA F9 N9 htk9
          have hj : j < l.reverse.length := by rcases List.getElem?_eq_some_iff.mp hv with ⟨q, _⟩; rw [← gl4]; exact q
          have hp := List.getElem?_eq_getElem hj
          obtain ⟨t, e1, e2⟩ := hR4.2 j _ hp
          rw [hv] at e1; cases e1
          have e9 : neg1 (fL ns l.reverse[j]) = fN ns l.reverse[j] := rfl
          (k_steps <;> repeat' (first | ((k_here; (with_reducible show wpAny _ _ (call (Value.ref 158) [_]) _ _ _); k_dflt (refine wpAny_toks _ (Nat.le_refl _) ?_; refine' light_c ?k1 ?k2 ?k3 ?k4 ?k5 ?kK ?kd ?ku ?hm ?ok ?_; (case k1 => k_asm); (case k2 => k_asm); (case k3 => k_asm); (case k4 => k_asm); (case k5 => k_asm); (case kK => first | exact rfl | assumption); (case kd => ktr_room); (case ku => ktr_units); (case hm => (repeat (first | assumption | exact List.mem_cons_self | refine List.mem_cons_of_mem _ ?_))); (case ok => assumption)); (intro t9z h9z tk9z F9z N9z q9z htk9z); (try dsimp only); (try k_fold)) <;> k_steps)))
          exact ⟨_, _, rfl, by k_asm, by k_asm, ⟨_, _, hp, rfl, by show @LE.le Nat _ _ _; dsimp only at *; omega⟩⟩
        case fin4 =>
          intro ys4 got4 D4 h4' tk4 F4 N4 l4 htk4
          have hF4 := got_flts (f := fN ns) (by omega) got4
          have gl4' := hF4.1
          (k_steps <;> repeat' (first | ((k_here; (with_reducible show wpAny _ _ (call (Value.ref 158) [_]) _ _ _); k_dflt (refine wpAny_toks _ (Nat.le_refl _) ?_; refine' light_c ?k1 ?k2 ?k3 ?k4 ?k5 ?kK ?kd ?ku ?hm ?ok ?_; (case k1 => k_asm); (case k2 => k_asm); (case k3 => k_asm); (case k4 => k_asm); (case k5 => k_asm); (case kK => first | exact rfl | assumption); (case kd => ktr_room); (case ku => ktr_units); (case hm => (repeat (first | assumption | exact List.mem_cons_self | refine List.mem_cons_of_mem _ ?_))); (case ok => assumption)); (intro t9z h9z tk9z F9z N9z q9z htk9z); (try dsimp only); (try k_fold)) <;> k_steps)))
          exact next _ _ D1 ys1 _ _ (by k_asm) (by assumption) (cb_drop (by k_asm) (fun p hp => by simp only [List.mem_cons] at hp; rcases hp with rfl | rfl | rfl | rfl | hp <;> (repeat (first | exact hp | exact List.mem_cons_self | refine List.mem_cons_of_mem _ ?_)))) hF1
end
end Mine

end PartPLaw4
section DryPLaw5
local macro_rules | `(tactic| walk_at "z0") => `(tactic| skip)
local macro_rules | `(tactic| walk_at "z1") => `(tactic| skip)
theorem Mine.offPLaw5 : True := by
  w_top off
  k_with_none
  try walk1
  trivial
end DryPLaw5
section PartPLaw5
open PySem PySem.W PyProof.Rows
set_option maxRecDepth 100000
set_option maxHeartbeats 3000000
set_option linter.unusedSectionVars false
open PySem.Flt
namespace Mine

local macro_rules | `(tactic| walk_at "exec For Name Tuple cons nil") => `(tactic| (k_here; k_dflt (refine for_enterT (by intro _; with_unfolding_all rfl) ?_)))
section
variable {w : World} {mean : ExcName → Option Value} {mg mb : Str → Option Value} {dp un : Nat} {gd : Option (List Code)} {a : Addr} {ccd : Value} {outer : List Env} {A₀ : Around} {base h₀ : Heap} {L : Addr} {s : Shared} {Q : Flow → Shared → Prop} {E : Value → Shared → Prop} {m : Str → Option Value}
 (B : Below A₀ base outer h₀) (X : (Mine.hd.heap_1 w.params).In h₀)
 (T : Top Mine.hd.view_1 (looseW Mine.hd.view_1 [Str.ofString "insort_right", Str.ofString "bisect_right", Str.ofString "insort_left", Str.ofString "bisect_left", Str.ofString "Whitespace"]) mean mg mb h₀) (hd : dp + 5 < recursionLimit) (hu : un + 120 < cLine)
 (hE : PassesOwn (model PySem.Challenge.rw_sc0103_01.row.prog w) (lawA dp un gd L a ccd outer) (lawE L a ccd) E)
include B X T hd hu hE

theorem law_c5 {D9 : Addr} {o1 : Obj} {ns : List Int} {rest : List (Addr × Obj)} {m' : Str → Option Value} {l : List Nat} {t1 t2 : Tok}
 (F : Fr h₀ L s.heap (fun y => if y = Str.ofString "order" then some (.ref D9) else if y = Str.ofString "other" then some (.str (tx (l.map fun p => !bitK ns p)) t2) else m' y))
 (N : News h₀ L s.heap ((L + 1, o1) :: rest)) (d1 : o1.data = .cell (some (.str (tx (l.map (bitK ns))) t1))) (h4 : 4 ≤ l.length) (h6 : l.length ≤ 6)
 (next : ∀ (h : Heap) (tk : Nat) (u3 : Str → Option Value), Fr h₀ L h (mapS [Str.ofString "lead"] u3 (fun y => if y = Str.ofString "order" then some (.ref D9) else if y = Str.ofString "other" then some (.str (tx (l.map fun p => !bitK ns p)) t2) else m' y) []) → News h₀ L h ((L + 1, o1) :: rest) →
  wpAny (model PySem.Challenge.rw_sc0103_01.row.prog w) (lawA dp un gd L a ccd outer) (execs (lawD.body.drop 18) (lawE L a ccd)) Q E { s with heap := h, toks := tk })
 : wpAny (model PySem.Challenge.rw_sc0103_01.row.prog w) (lawA dp un gd L a ccd outer) (execs (lawD.body.drop 17) (lawE L a ccd)) Q E s := by
  have b4 : l.reverse.length = l.length := List.length_reverse
  have e18 : lawD.body.drop 17 = _ :: lawD.body.drop 18 := rfl
  rw [e18]
  clear e18
  generalize lawD.body.drop 18 = rest18 at next ⊢
  unfold lawE at next hE ⊢
  try ((show let A0z := _; let Q0z := _; let E0z := _; wpAny _ A0z _ Q0z E0z _); intro A0z Q0z E0z)
  (k_steps <;> repeat' (first | ((k_here; k_dflt (refine wpAny_toks _ (Nat.le_refl _) ?_; refine' rev_tx ?k1 ?k2 ?k3 ?k4 ?_; (case k1 => k_asm); (case k2 => k_asm); (case k3 => assumption); (case k4 => assumption)); (intro h9z t9z c9z F9z N9z htk9z); (try dsimp only); (try k_fold)) <;> k_steps) | ((k_here; (with_reducible refine ne_str_same ?_)) <;> k_steps) | ((k_here; (with_reducible show wpAny _ _ (compareOp .NotEq (Value.ref _) (Value.ref _)) _ _ _); k_dflt (refine' ne_flts ?k1 ?k2 ?k3 ?k4 ?k5 ?k6 ?k7 ?k8 ?ku ?_; (case k1 => k_asm); (case k2 => k_asm); (case k3 => k_asm); (case k4 => k_mem); (case k5 => (repeat (first | assumption | exact List.mem_cons_self | refine List.mem_cons_of_mem _ ?_))); (case k6 => assumption); (case k7 => assumption); (case k8 => exact fun p _ => (by assumption : SelfF _) p); (case ku => ktr_units))) <;> k_steps) | ((k_here; (with_reducible show wpAny _ _ (call (Value.ref 173) [_]) _ _ _); k_dflt (refine' told_all ?k1 ?k2 ?k3 ?k4 ?k5 ?kK ?kd ?ku ?h4 ?h6 ?_; (case k1 => k_asm); (case k2 => k_asm); (case k3 => k_asm); (case k4 => k_asm); (case k5 => k_asm); (case kK => first | exact rfl | assumption); (case kd => ktr_room); (case ku => ktr_units); (case h4 => assumption); (case h6 => assumption)); (intro h9z tk9z F9z N9z); (try dsimp only); (try k_fold)) <;> k_steps)))
  refine for_tup (sto := [Str.ofString "lead"]) rfl hE (by k_asm) (by k_asm) (by k_mem) (asgF_one (by rfl) (by rfl)) ?hoff ?step ?fin
  case hoff =>
    rintro v m₁ m₂ rfl so z' h1 h2
    have h3 := so z' h1 h2
    simp only [List.contains_cons, List.contains_nil, Bool.or_false, Bool.or_eq_false_iff, beq_eq_false_iff_ne, ne_eq] at h2
    simp only [h2, if_false]
    exact h3
  case step =>
    intro v m₁ m₂ It oI h tk hv so hA off F9 N9 htk9
    subst hA
    have hT : ∃ (bs : List Bool) (t : Tok), v = Value.str (tx bs) t ∧ 4 ≤ bs.length ∧ bs.length ≤ 6 := by
      simp only [List.mem_cons, List.not_mem_nil, or_false] at hv
      rcases hv with rfl | rfl | rfl
      · exact ⟨_, _, rfl, by rw [List.length_map]; exact h4, by rw [List.length_map]; exact h6⟩
      · exact ⟨_, _, rfl, by rw [List.length_map]; exact h4, by rw [List.length_map]; exact h6⟩
      · exact ⟨_, _, rfl, by rw [List.length_map]; omega, by rw [List.length_map]; omega⟩
    obtain ⟨bs, t, rfl, g4, g6⟩ := hT
    rw [← mapS_same so] at F9
    try ((show let A0z := _; let Q0z := _; let E0z := _; wpAny _ A0z _ Q0z E0z _); intro A0z Q0z E0z)
    (k_steps <;> repeat' (first | ((k_here; k_dflt (refine wpAny_toks _ (Nat.le_refl _) ?_; refine' rev_tx ?k1 ?k2 ?k3 ?k4 ?_; (case k1 => k_asm); (case k2 => k_asm); (case k3 => assumption); (case k4 => assumption)); (intro h9z t9z c9z F9z N9z htk9z); (try dsimp only); (try k_fold)) <;> k_steps) | ((k_here; (with_reducible refine ne_str_same ?_)) <;> k_steps) | ((k_here; (with_reducible show wpAny _ _ (compareOp .NotEq (Value.ref _) (Value.ref _)) _ _ _); k_dflt (refine' ne_flts ?k1 ?k2 ?k3 ?k4 ?k5 ?k6 ?k7 ?k8 ?ku ?_; (case k1 => k_asm); (case k2 => k_asm); (case k3 => k_asm); (case k4 => k_mem); (case k5 => (repeat (first | assumption | exact List.mem_cons_self | refine List.mem_cons_of_mem _ ?_))); (case k6 => assumption); (case k7 => assumption); (case k8 => exact fun p _ => (by assumption : SelfF _) p); (case ku => ktr_units))) <;> k_steps) | ((k_here; (with_reducible show wpAny _ _ (call (Value.ref 173) [_]) _ _ _); k_dflt (refine' told_all ?k1 ?k2 ?k3 ?k4 ?k5 ?kK ?kd ?ku ?h4 ?h6 ?_; (case k1 => k_asm); (case k2 => k_asm); (case k3 => k_asm); (case k4 => k_asm); (case k5 => k_asm); (case kK => first | exact rfl | assumption); (case kd => ktr_room); (case ku => ktr_units); (case h4 => assumption); (case h6 => assumption)); (intro h9z tk9z F9z N9z); (try dsimp only); (try k_fold)) <;> k_steps)))
    all_goals exact ⟨_, _, _, rfl, by k_asm, by k_asm, by (intro z h2 h3; (have h3' := h3); (simp only [List.forall_mem_cons, List.not_mem_nil, false_implies, implies_true, and_true, ne_eq] at h2); (simp only [List.contains_cons, List.contains_nil, Bool.or_false, Bool.or_eq_false_iff, beq_eq_false_iff_ne, ne_eq] at h3); simp only [mapS, kstB, h2, h3, h3', if_false, Bool.false_eq_true])⟩
  case fin =>
    intro h tk m9 F9 N9 so htk9
    rw [← mapS_same so] at F9
    exact next _ _ _ F9 (cb_drop N9 (by intro p hp; (repeat (first | exact hp | refine List.mem_cons_of_mem _ ?_))))
end
end Mine

end PartPLaw5
section DryPLaw6
local macro_rules | `(tactic| walk_at "z0") => `(tactic| skip)
theorem Mine.offPLaw6 : True := by
  w_top off
  k_with_none
  try walk1
  trivial
end DryPLaw6
section PartPLaw6
open PySem PySem.W PyProof.Rows
set_option maxRecDepth 100000
set_option maxHeartbeats 4000000
set_option linter.unusedSectionVars false
open PySem.Flt
namespace Mine


local macro_rules | `(tactic| walk_at "subscriptTail Name Slice str ref") => `(tactic| (k_here; (with_reducible show wpAny _ _ (subscriptTail _ (Expr.Slice none (some _) none _) _ _) _ _ _); k_dflt (refine' cut_ns ?k1 ?k2 ?k5 ?_ ?k3 ?k4; (case k1 => k_asm); (case k2 => k_asm); (case k5 => omega); (case k3 => with_unfolding_all rfl); (case k4 => (intro _; with_unfolding_all rfl))); (intro h9 t9 c9 F9 N9); (try dsimp only); (try k_fold)))
local macro_rules | `(tactic| walk_at "subscriptTail Name Slice str ref") => `(tactic| (k_here; (with_reducible show wpAny _ _ (subscriptTail _ (Expr.Slice (some _) none none _) _ _) _ _ _); k_dflt (refine' cut_sn ?k1 ?k2 ?k5 ?_ ?k3 ?k4; (case k1 => k_asm); (case k2 => k_asm); (case k5 => omega); (case k3 => with_unfolding_all rfl); (case k4 => (intro _; with_unfolding_all rfl))); (intro h9 t9 c9 F9 N9); (try dsimp only); (try k_fold)))
local macro_rules | `(tactic| walk_at "exec For Name Call cons nil") => `(tactic| (k_here; k_dflt (refine for_enter (by intro _; with_unfolding_all rfl) ?_)))
local macro_rules | `(tactic| walk_at "binaryOp Add str str") => `(tactic| (k_here; (with_reducible refine add_tx1 (by omega) ?_); intro _ _))
local macro_rules | `(tactic| walk_at "binaryOp Add str str") => `(tactic| (k_here; (with_reducible refine add_tx2 (by omega) (by omega) ?_); intro _ _))
local macro_rules | `(tactic| walk_at "subscriptTail") => `(tactic| (k_here; (with_reducible show wpAny _ _ (subscriptTail _ _ (Value.ref _) (Value.int 0 _)) _ _ _); k_dflt (refine' item_tup0 ?k1 ?k2 ?_ ?k6; (case k1 => k_asm); (case k2 => (repeat (first | assumption | exact List.mem_cons_self | refine List.mem_cons_of_mem _ ?_))); (case k6 => with_unfolding_all rfl))))
section
variable {w : World} {mean : ExcName → Option Value} {mg mb : Str → Option Value} {dp un : Nat} {gd : Option (List Code)} {a : Addr} {ccd : Value} {outer : List Env} {A₀ : Around} {base h₀ : Heap} {L : Addr} {s : Shared} {Q : Flow → Shared → Prop} {E : Value → Shared → Prop} {m : Str → Option Value}
 (B : Below A₀ base outer h₀) (X : (Mine.hd.heap_1 w.params).In h₀)
 (T : Top Mine.hd.view_1 (looseW Mine.hd.view_1 [Str.ofString "insort_right", Str.ofString "bisect_right", Str.ofString "insort_left", Str.ofString "bisect_left", Str.ofString "Whitespace"]) mean mg mb h₀) (hd : dp + 5 < recursionLimit) (hu : un + 120 < cLine)
 (hE : PassesOwn (model PySem.Challenge.rw_sc0103_01.row.prog w) (lawA dp un gd L a ccd outer) (lawE L a ccd) E)
include B X T hd hu hE

theorem law_c6 {vs ysL : List Value} {kL c9 : Nat} {D9 DL : Addr} {o1 o2 : Obj} {ns : List Int} {rest ext : List (Addr × Obj)} {m' : Str → Option Value} {l : List Nat} {t1 : Tok}
 (F : Fr h₀ L s.heap (fun y => if y = Str.ofString "order" then some (.ref D9) else m' y))
 (N : News h₀ L s.heap ((DL, listO ysL kL) :: (L + 1 + 1, o2) :: (L + 1, o1) :: (D9, listO vs c9) :: rest)) (d1 : o1.data = .cell (some (.str (tx (l.map (bitK ns))) t1))) (d2 : o2.data = .cell (some (.ref DL))) (hx : ∀ p ∈ ext, p ∈ rest) (hO : OrdS ns ext vs l) (hFL : FltsT ysL l (fL ns)) (hs : l.Pairwise (SLt (Wn ns)))
 (h4 : 4 ≤ l.length) (h6 : l.length ≤ 6)
 (next : ∀ (h : Heap) (tk : Nat) (m2 : Str → Option Value), Fr h₀ L h m2 → News h₀ L h ((L + 1, o1) :: rest) → Q (.ret (.bool true)) { s with heap := h, toks := tk })
 : wpAny (model PySem.Challenge.rw_sc0103_01.row.prog w) (lawA dp un gd L a ccd outer) (execs (lawD.body.drop 18) (lawE L a ccd)) Q E s := by
  have hol := hO.1
  have gLL := hFL.1
  have hbl : (l.map (bitK ns)).length = l.length := List.length_map _
  have g4 : 4 ≤ (l.map (bitK ns)).length := by omega
  have g6 : (l.map (bitK ns)).length ≤ 6 := by omega
  have hbm := mem_texts g4 g6
  have e22 : lawD.body.drop 18 = _ :: _ :: _ :: _ :: [] := rfl
  rw [e22]
  clear e22
  unfold lawE at hE ⊢
  try ((show let A0z := _; let Q0z := _; let E0z := _; wpAny _ A0z _ Q0z E0z _); intro A0z Q0z E0z)
  (k_steps <;> repeat' (first | ((k_here; (with_reducible show wpAny _ _ (call (Value.ref 85) [_, _]) _ _ _); k_dflt (refine' ell_fe ?k1 ?k2 ?k3 ?k4 ?k5 ?kK ?kd ?ku ?h4 ?h6 ?hi ?hi2 ?hj ?hv ?_; (case k1 => k_asm); (case k2 => k_asm); (case k3 => k_asm); (case k4 => k_asm); (case k5 => k_asm); (case kK => first | exact rfl | assumption); (case kd => ktr_room); (case ku => ktr_units); (case h4 => assumption); (case h6 => assumption); (case hi => assumption); (case hi2 => assumption); (case hj => assumption); (case hv => assumption)); (intro h9z tk9z F9z N9z); (try dsimp only); (try k_fold)) <;> k_steps) | ((k_here; (with_reducible show wpAny _ _ (call (Value.ref 57) [_, _]) _ _ _); k_dflt (refine' bisL_flt ?k1 ?k2 ?k3 ?k4 ?k5 ?kK ?kd ?ku ?hl ?hn ?hi ?hc ?_; (case k1 => k_asm); (case k2 => k_asm); (case k3 => k_asm); (case k4 => k_asm); (case k5 => k_asm); (case kK => first | exact rfl | assumption); (case kd => ktr_room); (case ku => ktr_units); (case hl => (repeat (first | assumption | exact List.mem_cons_self | refine List.mem_cons_of_mem _ ?_))); (case hn => omega); (case hi => assumption); (case hc => assumption)); (intro t9z h9z tk9z F9z N9z); (try dsimp only); (try k_fold)) <;> k_steps) | ((k_here; (with_reducible show wpAny _ _ (call (Value.ref 39) [_, _]) _ _ _); k_dflt (refine' bisR_flt ?k1 ?k2 ?k3 ?k4 ?k5 ?kK ?kd ?ku ?hl ?hn ?hi ?hc ?_; (case k1 => k_asm); (case k2 => k_asm); (case k3 => k_asm); (case k4 => k_asm); (case k5 => k_asm); (case kK => first | exact rfl | assumption); (case kd => ktr_room); (case ku => ktr_units); (case hl => (repeat (first | assumption | exact List.mem_cons_self | refine List.mem_cons_of_mem _ ?_))); (case hn => omega); (case hi => assumption); (case hc => assumption)); (intro t9z h9z tk9z F9z N9z); (try dsimp only); (try k_fold)) <;> k_steps)))
  refine ⟨_, _, _, _, _, (fun j y => ∃ (p : Nat) (t : Tok), l[j]? = some p ∧ y = Value.str (tx ((l.map (bitK ns)).take (cntW (Wn ns) l p))) t), rfl, by k_asm, by k_asm, by k_mem, by omega, asg_three rfl (by rfl) (by rfl) (by rfl) (by rfl) (by decide) (by decide) (by decide) (TT ns ext) (ord_ht hO ?sub1), ?turn1, ?fin1⟩
  case sub1 => (intro p hp; (repeat (first | exact hx _ hp | exact hp | refine List.mem_cons_of_mem _ ?_)))
  case turn1 =>
    intro j v I oI C oC D ys m₂ h tk E' hv hC hA F9 N9 htk9
    obtain ⟨x, y, z, hT, hW, hP, hK⟩ := hA
    obtain ⟨p, t1, t2, t3, hp, rfl, rfl, rfl⟩ := ord_turn N9 (ext := ext) (by intro p hp; (repeat (first | exact hx _ hp | exact hp | refine List.mem_cons_of_mem _ ?_))) hO hv hT
    have kb := kq_lt (res ns p)
    have wb := wt_le (res ns p)
    replace kb : Kn ns p < 16 := kb
    replace wb : Wn ns p ≤ 18 := wb
    have c1 := bisR_of hs hFL p
    have c2 : cntW (Wn ns) l p ≤ ysL.length := by rw [hFL.1]; exact cnt_le _ _ _
    try ((show let A0z := _; let Q0z := _; let E0z := _; wpAny _ A0z _ Q0z E0z _); intro A0z Q0z E0z)
    (k_steps <;> repeat' (first | ((k_here; (with_reducible show wpAny _ _ (call (Value.ref 85) [_, _]) _ _ _); k_dflt (refine' ell_fe ?k1 ?k2 ?k3 ?k4 ?k5 ?kK ?kd ?ku ?h4 ?h6 ?hi ?hi2 ?hj ?hv ?_; (case k1 => k_asm); (case k2 => k_asm); (case k3 => k_asm); (case k4 => k_asm); (case k5 => k_asm); (case kK => first | exact rfl | assumption); (case kd => ktr_room); (case ku => ktr_units); (case h4 => assumption); (case h6 => assumption); (case hi => assumption); (case hi2 => assumption); (case hj => assumption); (case hv => assumption)); (intro h9z tk9z F9z N9z); (try dsimp only); (try k_fold)) <;> k_steps) | ((k_here; (with_reducible show wpAny _ _ (call (Value.ref 57) [_, _]) _ _ _); k_dflt (refine' bisL_flt ?k1 ?k2 ?k3 ?k4 ?k5 ?kK ?kd ?ku ?hl ?hn ?hi ?hc ?_; (case k1 => k_asm); (case k2 => k_asm); (case k3 => k_asm); (case k4 => k_asm); (case k5 => k_asm); (case kK => first | exact rfl | assumption); (case kd => ktr_room); (case ku => ktr_units); (case hl => (repeat (first | assumption | exact List.mem_cons_self | refine List.mem_cons_of_mem _ ?_))); (case hn => omega); (case hi => assumption); (case hc => assumption)); (intro t9z h9z tk9z F9z N9z); (try dsimp only); (try k_fold)) <;> k_steps) | ((k_here; (with_reducible show wpAny _ _ (call (Value.ref 39) [_, _]) _ _ _); k_dflt (refine' bisR_flt ?k1 ?k2 ?k3 ?k4 ?k5 ?kK ?kd ?ku ?hl ?hn ?hi ?hc ?_; (case k1 => k_asm); (case k2 => k_asm); (case k3 => k_asm); (case k4 => k_asm); (case k5 => k_asm); (case kK => first | exact rfl | assumption); (case kd => ktr_room); (case ku => ktr_units); (case hl => (repeat (first | assumption | exact List.mem_cons_self | refine List.mem_cons_of_mem _ ?_))); (case hn => omega); (case hi => assumption); (case hc => assumption)); (intro t9z h9z tk9z F9z N9z); (try dsimp only); (try k_fold)) <;> k_steps)))
    exact ⟨_, _, rfl, by k_asm, by k_asm, ⟨p, _, hp, congrArg (Value.str · _) (cut_texts _ hbm _ (by omega)).1⟩⟩
  case fin1 =>
    intro ys1 got1 D1 h1 tk1 F1 N1 l1 htk1
    have q1 := allLt_of l1
    dsimp only [AllLt] at q1
    have hS1 := got_strT (g := fun p => tx ((l.map (bitK ns)).take (cntW (Wn ns) l p))) (by omega) got1
    have gl1 := got1.1
    try ((show let A0z := _; let Q0z := _; let E0z := _; wpAny _ A0z _ Q0z E0z _); intro A0z Q0z E0z)
    (k_steps <;> repeat' (first | ((k_here; (with_reducible show wpAny _ _ (call (Value.ref 85) [_, _]) _ _ _); k_dflt (refine' ell_fe ?k1 ?k2 ?k3 ?k4 ?k5 ?kK ?kd ?ku ?h4 ?h6 ?hi ?hi2 ?hj ?hv ?_; (case k1 => k_asm); (case k2 => k_asm); (case k3 => k_asm); (case k4 => k_asm); (case k5 => k_asm); (case kK => first | exact rfl | assumption); (case kd => ktr_room); (case ku => ktr_units); (case h4 => assumption); (case h6 => assumption); (case hi => assumption); (case hi2 => assumption); (case hj => assumption); (case hv => assumption)); (intro h9z tk9z F9z N9z); (try dsimp only); (try k_fold)) <;> k_steps) | ((k_here; (with_reducible show wpAny _ _ (call (Value.ref 57) [_, _]) _ _ _); k_dflt (refine' bisL_flt ?k1 ?k2 ?k3 ?k4 ?k5 ?kK ?kd ?ku ?hl ?hn ?hi ?hc ?_; (case k1 => k_asm); (case k2 => k_asm); (case k3 => k_asm); (case k4 => k_asm); (case k5 => k_asm); (case kK => first | exact rfl | assumption); (case kd => ktr_room); (case ku => ktr_units); (case hl => (repeat (first | assumption | exact List.mem_cons_self | refine List.mem_cons_of_mem _ ?_))); (case hn => omega); (case hi => assumption); (case hc => assumption)); (intro t9z h9z tk9z F9z N9z); (try dsimp only); (try k_fold)) <;> k_steps) | ((k_here; (with_reducible show wpAny _ _ (call (Value.ref 39) [_, _]) _ _ _); k_dflt (refine' bisR_flt ?k1 ?k2 ?k3 ?k4 ?k5 ?kK ?kd ?ku ?hl ?hn ?hi ?hc ?_; (case k1 => k_asm); (case k2 => k_asm); (case k3 => k_asm); (case k4 => k_asm); (case k5 => k_asm); (case kK => first | exact rfl | assumption); (case kd => ktr_room); (case ku => ktr_units); (case hl => (repeat (first | assumption | exact List.mem_cons_self | refine List.mem_cons_of_mem _ ?_))); (case hn => omega); (case hi => assumption); (case hc => assumption)); (intro t9z h9z tk9z F9z N9z); (try dsimp only); (try k_fold)) <;> k_steps)))
    refine ⟨_, _, _, _, _, (fun j y => ∃ (p : Nat) (t : Tok), l[j]? = some p ∧ y = Value.str (tx ((l.map (bitK ns)).drop (cL (Wn ns) l p))) t), rfl, by k_asm, by k_asm, by k_mem, by omega, asg_three rfl (by rfl) (by rfl) (by rfl) (by rfl) (by decide) (by decide) (by decide) (TT ns ext) (ord_ht hO ?sub2), ?turn2, ?fin2⟩
    case sub2 => (intro p hp; (repeat (first | exact hx _ hp | exact hp | refine List.mem_cons_of_mem _ ?_)))
    case turn2 =>
      intro j v I oI C oC D ys m₂ h tk E' hv hC hA F9 N9 htk9
      obtain ⟨x, y, z, hT, hW, hP, hK⟩ := hA
      obtain ⟨p, t1, t2, t3, hp, rfl, rfl, rfl⟩ := ord_turn N9 (ext := ext) (by intro p hp; (repeat (first | exact hx _ hp | exact hp | refine List.mem_cons_of_mem _ ?_))) hO hv hT
      have kb := kq_lt (res ns p)
      have wb := wt_le (res ns p)
      replace kb : Kn ns p < 16 := kb
      replace wb : Wn ns p ≤ 18 := wb
      have c1 := bisL_of hs hFL p
      have c2 : cL (Wn ns) l p ≤ ysL.length := by rw [hFL.1]; exact cL_le _ _ _
      try ((show let A0z := _; let Q0z := _; let E0z := _; wpAny _ A0z _ Q0z E0z _); intro A0z Q0z E0z)
      (k_steps <;> repeat' (first | ((k_here; (with_reducible show wpAny _ _ (call (Value.ref 85) [_, _]) _ _ _); k_dflt (refine' ell_fe ?k1 ?k2 ?k3 ?k4 ?k5 ?kK ?kd ?ku ?h4 ?h6 ?hi ?hi2 ?hj ?hv ?_; (case k1 => k_asm); (case k2 => k_asm); (case k3 => k_asm); (case k4 => k_asm); (case k5 => k_asm); (case kK => first | exact rfl | assumption); (case kd => ktr_room); (case ku => ktr_units); (case h4 => assumption); (case h6 => assumption); (case hi => assumption); (case hi2 => assumption); (case hj => assumption); (case hv => assumption)); (intro h9z tk9z F9z N9z); (try dsimp only); (try k_fold)) <;> k_steps) | ((k_here; (with_reducible show wpAny _ _ (call (Value.ref 57) [_, _]) _ _ _); k_dflt (refine' bisL_flt ?k1 ?k2 ?k3 ?k4 ?k5 ?kK ?kd ?ku ?hl ?hn ?hi ?hc ?_; (case k1 => k_asm); (case k2 => k_asm); (case k3 => k_asm); (case k4 => k_asm); (case k5 => k_asm); (case kK => first | exact rfl | assumption); (case kd => ktr_room); (case ku => ktr_units); (case hl => (repeat (first | assumption | exact List.mem_cons_self | refine List.mem_cons_of_mem _ ?_))); (case hn => omega); (case hi => assumption); (case hc => assumption)); (intro t9z h9z tk9z F9z N9z); (try dsimp only); (try k_fold)) <;> k_steps) | ((k_here; (with_reducible show wpAny _ _ (call (Value.ref 39) [_, _]) _ _ _); k_dflt (refine' bisR_flt ?k1 ?k2 ?k3 ?k4 ?k5 ?kK ?kd ?ku ?hl ?hn ?hi ?hc ?_; (case k1 => k_asm); (case k2 => k_asm); (case k3 => k_asm); (case k4 => k_asm); (case k5 => k_asm); (case kK => first | exact rfl | assumption); (case kd => ktr_room); (case ku => ktr_units); (case hl => (repeat (first | assumption | exact List.mem_cons_self | refine List.mem_cons_of_mem _ ?_))); (case hn => omega); (case hi => assumption); (case hc => assumption)); (intro t9z h9z tk9z F9z N9z); (try dsimp only); (try k_fold)) <;> k_steps)))
      exact ⟨_, _, rfl, by k_asm, by k_asm, ⟨p, _, hp, congrArg (Value.str · _) (cut_texts _ hbm _ (by omega)).2.1⟩⟩
    case fin2 =>
      intro ys2 got2 D2 h2 tk2 F2 N2 l2 htk2
      have q2 := allLt_of l2
      dsimp only [AllLt] at q2
      have hS2 := got_strT (g := fun p => tx ((l.map (bitK ns)).drop (cL (Wn ns) l p))) (by omega) got2
      have gl2 := got2.1
      try ((show let A0z := _; let Q0z := _; let E0z := _; wpAny _ A0z _ Q0z E0z _); intro A0z Q0z E0z)
      (k_steps <;> repeat' (first | ((k_here; (with_reducible show wpAny _ _ (call (Value.ref 85) [_, _]) _ _ _); k_dflt (refine' ell_fe ?k1 ?k2 ?k3 ?k4 ?k5 ?kK ?kd ?ku ?h4 ?h6 ?hi ?hi2 ?hj ?hv ?_; (case k1 => k_asm); (case k2 => k_asm); (case k3 => k_asm); (case k4 => k_asm); (case k5 => k_asm); (case kK => first | exact rfl | assumption); (case kd => ktr_room); (case ku => ktr_units); (case h4 => assumption); (case h6 => assumption); (case hi => assumption); (case hi2 => assumption); (case hj => assumption); (case hv => assumption)); (intro h9z tk9z F9z N9z); (try dsimp only); (try k_fold)) <;> k_steps) | ((k_here; (with_reducible show wpAny _ _ (call (Value.ref 57) [_, _]) _ _ _); k_dflt (refine' bisL_flt ?k1 ?k2 ?k3 ?k4 ?k5 ?kK ?kd ?ku ?hl ?hn ?hi ?hc ?_; (case k1 => k_asm); (case k2 => k_asm); (case k3 => k_asm); (case k4 => k_asm); (case k5 => k_asm); (case kK => first | exact rfl | assumption); (case kd => ktr_room); (case ku => ktr_units); (case hl => (repeat (first | assumption | exact List.mem_cons_self | refine List.mem_cons_of_mem _ ?_))); (case hn => omega); (case hi => assumption); (case hc => assumption)); (intro t9z h9z tk9z F9z N9z); (try dsimp only); (try k_fold)) <;> k_steps) | ((k_here; (with_reducible show wpAny _ _ (call (Value.ref 39) [_, _]) _ _ _); k_dflt (refine' bisR_flt ?k1 ?k2 ?k3 ?k4 ?k5 ?kK ?kd ?ku ?hl ?hn ?hi ?hc ?_; (case k1 => k_asm); (case k2 => k_asm); (case k3 => k_asm); (case k4 => k_asm); (case k5 => k_asm); (case kK => first | exact rfl | assumption); (case kd => ktr_room); (case ku => ktr_units); (case hl => (repeat (first | assumption | exact List.mem_cons_self | refine List.mem_cons_of_mem _ ?_))); (case hn => omega); (case hi => assumption); (case hc => assumption)); (intro t9z h9z tk9z F9z N9z); (try dsimp only); (try k_fold)) <;> k_steps)))
      rename IsRange _ _ _ _ _ _ _ _ => hR5
      refine for_range (by rfl) (by rfl) rfl hE (JS (fun _ : Unit => []) _ (fun _ _ => True) [Str.ofString "i", Str.ofString "j"] _) (by k_asm) (by k_asm) (js0 (Led := fun _ => _) () trivial (by kst_all)) (n := l.length) hR5 (rg_small (by omega) (by omega) (by omega) (by omega)) (rg_size (by omega)) (step_S ?hx3 ?turn3) (fin_S ?fin3)
      case hx3 => (intro c p hp; cases hp)
      case turn3 =>
        rintro i v ⟨⟩ u It oI hp tk hi ⟨tv, rfl⟩ _ off F9 N9
        try ((show let A0z := _; let Q0z := _; let E0z := _; wpAny _ A0z _ Q0z E0z _); intro A0z Q0z E0z)
        (k_steps <;> repeat' (first | ((k_here; (with_reducible show wpAny _ _ (call (Value.ref 85) [_, _]) _ _ _); k_dflt (refine' ell_fe ?k1 ?k2 ?k3 ?k4 ?k5 ?kK ?kd ?ku ?h4 ?h6 ?hi ?hi2 ?hj ?hv ?_; (case k1 => k_asm); (case k2 => k_asm); (case k3 => k_asm); (case k4 => k_asm); (case k5 => k_asm); (case kK => first | exact rfl | assumption); (case kd => ktr_room); (case ku => ktr_units); (case h4 => assumption); (case h6 => assumption); (case hi => assumption); (case hi2 => assumption); (case hj => assumption); (case hv => assumption)); (intro h9z tk9z F9z N9z); (try dsimp only); (try k_fold)) <;> k_steps) | ((k_here; (with_reducible show wpAny _ _ (call (Value.ref 57) [_, _]) _ _ _); k_dflt (refine' bisL_flt ?k1 ?k2 ?k3 ?k4 ?k5 ?kK ?kd ?ku ?hl ?hn ?hi ?hc ?_; (case k1 => k_asm); (case k2 => k_asm); (case k3 => k_asm); (case k4 => k_asm); (case k5 => k_asm); (case kK => first | exact rfl | assumption); (case kd => ktr_room); (case ku => ktr_units); (case hl => (repeat (first | assumption | exact List.mem_cons_self | refine List.mem_cons_of_mem _ ?_))); (case hn => omega); (case hi => assumption); (case hc => assumption)); (intro t9z h9z tk9z F9z N9z); (try dsimp only); (try k_fold)) <;> k_steps) | ((k_here; (with_reducible show wpAny _ _ (call (Value.ref 39) [_, _]) _ _ _); k_dflt (refine' bisR_flt ?k1 ?k2 ?k3 ?k4 ?k5 ?kK ?kd ?ku ?hl ?hn ?hi ?hc ?_; (case k1 => k_asm); (case k2 => k_asm); (case k3 => k_asm); (case k4 => k_asm); (case k5 => k_asm); (case kK => first | exact rfl | assumption); (case kd => ktr_room); (case ku => ktr_units); (case hl => (repeat (first | assumption | exact List.mem_cons_self | refine List.mem_cons_of_mem _ ?_))); (case hn => omega); (case hi => assumption); (case hc => assumption)); (intro t9z h9z tk9z F9z N9z); (try dsimp only); (try k_fold)) <;> k_steps)))
        have hip := List.getElem?_eq_getElem hi
        obtain ⟨ti, ei⟩ := hS1.2 i _ hip
        obtain ⟨ai, ti1, ti2, ti3, oi, mi⟩ := hO.2 i _ hip
        have mi' := hx _ mi
        have hxF : ys1[(0 + (i : Int)).toNat]? = some (.str (tx ((l.map (bitK ns)).take (cntW (Wn ns) l l[i]))) ti) := by rw [Int.zero_add]; exact ei
        have hxO : vs[(0 + (i : Int)).toNat]? = some (.ref ai) := by rw [Int.zero_add]; exact oi
        generalize l[i] = pI at hip ei mi mi' hxF
        rename IsRange _ _ _ _ _ _ _ _ => hR6
        refine for_range (by rfl) (by rfl) rfl hE (JS (fun _ : Unit => []) _ (fun _ _ => True) [Str.ofString "j"] _) (by k_asm) (by k_asm) (js0 (Led := fun _ => _) () trivial (by kst_all)) (n := l.length) hR6 (rg_small (by omega) (by omega) (by omega) (by omega)) (rg_size (by omega)) (step_S ?hx4 ?turn4) (fin_S ?fin4)
        case hx4 => (intro c p hp; cases hp)
        case turn4 =>
          rintro j v ⟨⟩ u2 It2 oI2 hp2 tk2 hj ⟨tv2, rfl⟩ _ off2 F9 N9
          have hjp := List.getElem?_eq_getElem hj
          obtain ⟨tj, ej⟩ := hS2.2 j _ hjp
          obtain ⟨aj, tj1, tj2, tj3, oj, mj⟩ := hO.2 j _ hjp
          have mj' := hx _ mj
          have hxE : ys2[(0 + (j : Int)).toNat]? = some (.str (tx ((l.map (bitK ns)).drop (cL (Wn ns) l l[j]))) tj) := by rw [Int.zero_add]; exact ej
          have hxP : vs[(0 + (j : Int)).toNat]? = some (.ref aj) := by rw [Int.zero_add]; exact oj
          generalize l[j] = pJ at hjp ej mj mj' hxE
          obtain ⟨k1, k2, k3⟩ := cut_le hs hip hjp
          replace k1 : decide (cntW (Wn ns) l pI ≤ cL (Wn ns) l pJ) = decide ((Wn ns pI : Int) < (Wn ns pJ : Int)) := k1.trans (decide_eq_decide.mpr (by omega))
          have k4 : cntW (Wn ns) l pI ≤ (l.map (bitK ns)).length := by rw [hbl]; exact cnt_le _ _ _
          have k5 : cL (Wn ns) l pJ < (l.map (bitK ns)).length := by rw [hbl]; exact k3
          have k6 : ((l.map (bitK ns)).take (cntW (Wn ns) l pI)).length ≤ 100 := by rw [List.length_take]; omega
          have k7 : ((l.map (bitK ns)).drop (cL (Wn ns) l pJ)).length ≤ 100 := by rw [List.length_drop]; omega
          try ((show let A0z := _; let Q0z := _; let E0z := _; wpAny _ A0z _ Q0z E0z _); intro A0z Q0z E0z)
          (k_steps <;> repeat' (first | ((k_here; (with_reducible show wpAny _ _ (call (Value.ref 85) [_, _]) _ _ _); k_dflt (refine' ell_fe ?k1 ?k2 ?k3 ?k4 ?k5 ?kK ?kd ?ku ?h4 ?h6 ?hi ?hi2 ?hj ?hv ?_; (case k1 => k_asm); (case k2 => k_asm); (case k3 => k_asm); (case k4 => k_asm); (case k5 => k_asm); (case kK => first | exact rfl | assumption); (case kd => ktr_room); (case ku => ktr_units); (case h4 => assumption); (case h6 => assumption); (case hi => assumption); (case hi2 => assumption); (case hj => assumption); (case hv => assumption)); (intro h9z tk9z F9z N9z); (try dsimp only); (try k_fold)) <;> k_steps) | ((k_here; (with_reducible show wpAny _ _ (call (Value.ref 57) [_, _]) _ _ _); k_dflt (refine' bisL_flt ?k1 ?k2 ?k3 ?k4 ?k5 ?kK ?kd ?ku ?hl ?hn ?hi ?hc ?_; (case k1 => k_asm); (case k2 => k_asm); (case k3 => k_asm); (case k4 => k_asm); (case k5 => k_asm); (case kK => first | exact rfl | assumption); (case kd => ktr_room); (case ku => ktr_units); (case hl => (repeat (first | assumption | exact List.mem_cons_self | refine List.mem_cons_of_mem _ ?_))); (case hn => omega); (case hi => assumption); (case hc => assumption)); (intro t9z h9z tk9z F9z N9z); (try dsimp only); (try k_fold)) <;> k_steps) | ((k_here; (with_reducible show wpAny _ _ (call (Value.ref 39) [_, _]) _ _ _); k_dflt (refine' bisR_flt ?k1 ?k2 ?k3 ?k4 ?k5 ?kK ?kd ?ku ?hl ?hn ?hi ?hc ?_; (case k1 => k_asm); (case k2 => k_asm); (case k3 => k_asm); (case k4 => k_asm); (case k5 => k_asm); (case kK => first | exact rfl | assumption); (case kd => ktr_room); (case ku => ktr_units); (case hl => (repeat (first | assumption | exact List.mem_cons_self | refine List.mem_cons_of_mem _ ?_))); (case hn => omega); (case hi => assumption); (case hc => assumption)); (intro t9z h9z tk9z F9z N9z); (try dsimp only); (try k_fold)) <;> k_steps)))
          all_goals first
            | (exfalso; rename (_ != _) = true => hbad; rw [bne_self_eq_false] at hbad; exact Bool.false_ne_true hbad)
            | exact ⟨(), _, _, _, rfl, by k_asm, by k_asm, off2, trivial, (fun p hp => by cases hp), by (intro z h2 h3; (have h3' := h3); (simp only [List.forall_mem_cons, List.not_mem_nil, false_implies, implies_true, and_true, ne_eq] at h2); (simp only [List.contains_cons, List.contains_nil, Bool.or_false, Bool.or_eq_false_iff, beq_eq_false_iff_ne, ne_eq] at h3); simp only [mapS, kstB, h2, h3, h3', if_false, Bool.false_eq_true])⟩
        case fin4 =>
          rintro ⟨⟩ u2 hp2 tk2 _ F9 N9
          try ((show let A0z := _; let Q0z := _; let E0z := _; wpAny _ A0z _ Q0z E0z _); intro A0z Q0z E0z)
          (k_steps <;> repeat' (first | ((k_here; (with_reducible show wpAny _ _ (call (Value.ref 85) [_, _]) _ _ _); k_dflt (refine' ell_fe ?k1 ?k2 ?k3 ?k4 ?k5 ?kK ?kd ?ku ?h4 ?h6 ?hi ?hi2 ?hj ?hv ?_; (case k1 => k_asm); (case k2 => k_asm); (case k3 => k_asm); (case k4 => k_asm); (case k5 => k_asm); (case kK => first | exact rfl | assumption); (case kd => ktr_room); (case ku => ktr_units); (case h4 => assumption); (case h6 => assumption); (case hi => assumption); (case hi2 => assumption); (case hj => assumption); (case hv => assumption)); (intro h9z tk9z F9z N9z); (try dsimp only); (try k_fold)) <;> k_steps) | ((k_here; (with_reducible show wpAny _ _ (call (Value.ref 57) [_, _]) _ _ _); k_dflt (refine' bisL_flt ?k1 ?k2 ?k3 ?k4 ?k5 ?kK ?kd ?ku ?hl ?hn ?hi ?hc ?_; (case k1 => k_asm); (case k2 => k_asm); (case k3 => k_asm); (case k4 => k_asm); (case k5 => k_asm); (case kK => first | exact rfl | assumption); (case kd => ktr_room); (case ku => ktr_units); (case hl => (repeat (first | assumption | exact List.mem_cons_self | refine List.mem_cons_of_mem _ ?_))); (case hn => omega); (case hi => assumption); (case hc => assumption)); (intro t9z h9z tk9z F9z N9z); (try dsimp only); (try k_fold)) <;> k_steps) | ((k_here; (with_reducible show wpAny _ _ (call (Value.ref 39) [_, _]) _ _ _); k_dflt (refine' bisR_flt ?k1 ?k2 ?k3 ?k4 ?k5 ?kK ?kd ?ku ?hl ?hn ?hi ?hc ?_; (case k1 => k_asm); (case k2 => k_asm); (case k3 => k_asm); (case k4 => k_asm); (case k5 => k_asm); (case kK => first | exact rfl | assumption); (case kd => ktr_room); (case ku => ktr_units); (case hl => (repeat (first | assumption | exact List.mem_cons_self | refine List.mem_cons_of_mem _ ?_))); (case hn => omega); (case hi => assumption); (case hc => assumption)); (intro t9z h9z tk9z F9z N9z); (try dsimp only); (try k_fold)) <;> k_steps)))
          all_goals exact ⟨(), _, _, _, rfl, by k_asm, cb_drop (by k_asm) (fun p hp => by first | exact hp | exact List.mem_cons_of_mem _ hp), off, trivial, (fun p hp => by cases hp), by (intro z h2 h3; (have h3' := h3); (simp only [List.forall_mem_cons, List.not_mem_nil, false_implies, implies_true, and_true, ne_eq] at h2); (simp only [List.contains_cons, List.contains_nil, Bool.or_false, Bool.or_eq_false_iff, beq_eq_false_iff_ne, ne_eq] at h3); simp only [mapS, kstB, h2, h3, h3', if_false, Bool.false_eq_true, List.contains_cons, List.contains_nil, Bool.or_false, beq_iff_eq])⟩
      case fin3 =>
        rintro ⟨⟩ u hp tk _ F9 N9
        try ((show let A0z := _; let Q0z := _; let E0z := _; wpAny _ A0z _ Q0z E0z _); intro A0z Q0z E0z)
        (k_steps <;> repeat' (first | ((k_here; (with_reducible show wpAny _ _ (call (Value.ref 85) [_, _]) _ _ _); k_dflt (refine' ell_fe ?k1 ?k2 ?k3 ?k4 ?k5 ?kK ?kd ?ku ?h4 ?h6 ?hi ?hi2 ?hj ?hv ?_; (case k1 => k_asm); (case k2 => k_asm); (case k3 => k_asm); (case k4 => k_asm); (case k5 => k_asm); (case kK => first | exact rfl | assumption); (case kd => ktr_room); (case ku => ktr_units); (case h4 => assumption); (case h6 => assumption); (case hi => assumption); (case hi2 => assumption); (case hj => assumption); (case hv => assumption)); (intro h9z tk9z F9z N9z); (try dsimp only); (try k_fold)) <;> k_steps) | ((k_here; (with_reducible show wpAny _ _ (call (Value.ref 57) [_, _]) _ _ _); k_dflt (refine' bisL_flt ?k1 ?k2 ?k3 ?k4 ?k5 ?kK ?kd ?ku ?hl ?hn ?hi ?hc ?_; (case k1 => k_asm); (case k2 => k_asm); (case k3 => k_asm); (case k4 => k_asm); (case k5 => k_asm); (case kK => first | exact rfl | assumption); (case kd => ktr_room); (case ku => ktr_units); (case hl => (repeat (first | assumption | exact List.mem_cons_self | refine List.mem_cons_of_mem _ ?_))); (case hn => omega); (case hi => assumption); (case hc => assumption)); (intro t9z h9z tk9z F9z N9z); (try dsimp only); (try k_fold)) <;> k_steps) | ((k_here; (with_reducible show wpAny _ _ (call (Value.ref 39) [_, _]) _ _ _); k_dflt (refine' bisR_flt ?k1 ?k2 ?k3 ?k4 ?k5 ?kK ?kd ?ku ?hl ?hn ?hi ?hc ?_; (case k1 => k_asm); (case k2 => k_asm); (case k3 => k_asm); (case k4 => k_asm); (case k5 => k_asm); (case kK => first | exact rfl | assumption); (case kd => ktr_room); (case ku => ktr_units); (case hl => (repeat (first | assumption | exact List.mem_cons_self | refine List.mem_cons_of_mem _ ?_))); (case hn => omega); (case hi => assumption); (case hc => assumption)); (intro t9z h9z tk9z F9z N9z); (try dsimp only); (try k_fold)) <;> k_steps)))
        all_goals exact next _ _ _ (by k_asm) (cb_drop (by k_asm) (fun p hp => by simp only [List.mem_cons] at hp; rcases hp with rfl | hp <;> (repeat (first | exact hp | exact List.mem_cons_self | refine List.mem_cons_of_mem _ ?_))))
end
end Mine

end PartPLaw6
section DryPLaw1
local macro_rules | `(tactic| walk_at "z0") => `(tactic| skip)
theorem Mine.offPLaw1 : True := by
  w_top off
  k_with_none
  try walk1
  trivial
end DryPLaw1
section PartPLaw1
open PySem PySem.W PyProof.Rows
set_option maxRecDepth 100000
set_option maxHeartbeats 4000000
set_option linter.unusedSectionVars false
open PySem.Flt
namespace Mine

theorem ints_at {vd : List Value} {ns : List Int} (h : IntsAre vd ns) {i : Nat} (hi : i < ns.length) : ∃ t, vd[i]? = some (Value.int (ns.getD i 0) t) := by
  have key : ∀ (vs : List Value) (ns : List Int), IntsAre vs ns → ∀ i, i < ns.length → ∃ t, vs[i]? = some (Value.int (ns.getD i 0) t) := by
    intro vs ns h
    induction h with
    | nil => intro i hi; simp at hi
    | cons n t _ ih => intro i hi; cases i with
      | zero => exact ⟨t, rfl⟩
      | succ i => obtain ⟨t', e⟩ := ih i (by simpa using hi); exact ⟨t', by simpa using e⟩
  exact key vd ns h i hi
theorem inv0 (ns : List Int) (base : List (Addr × Obj)) (O P T0 G D0 : Addr) (ko kp kt kg : Nat) (a1 : ∀ p ∈ base, p.1 ≠ O) (a2 : ∀ p ∈ base, p.1 ≠ P) (a3 : ∀ p ∈ base, p.1 ≠ T0) (a4 : ∀ p ∈ base, p.1 ≠ G) : InvL ns base O P T0 G D0 0 ⟨[], [], [], [], ko, kp, kt, kg, base⟩ :=
  ⟨rfl, fun j hj => absurd hj (Nat.not_lt_zero _), ⟨rfl, fun j p e => by simp [insAll] at e⟩, ⟨rfl, fun j p e => by simp [insAll] at e⟩, ⟨rfl, fun j p e => by simp [insAll] at e⟩, a1, a2, a3, a4, fun p hp => hp⟩

section
variable {w : World} {mean : ExcName → Option Value} {mg mb : Str → Option Value} {dp un : Nat} {gd : Option (List Code)} {a : Addr} {ccd : Value} {outer : List Env} {A₀ : Around} {base h₀ : Heap} {L : Addr} {s : Shared} {Q : Flow → Shared → Prop} {E : Value → Shared → Prop} {m : Str → Option Value}
 (B : Below A₀ base outer h₀) (X : (Mine.hd.heap_1 w.params).In h₀)
 (T : Top Mine.hd.view_1 (looseW Mine.hd.view_1 [Str.ofString "insort_right", Str.ofString "bisect_right", Str.ofString "insort_left", Str.ofString "bisect_left", Str.ofString "Whitespace"]) mean mg mb h₀) (hd : dp + 5 < recursionLimit) (hu : un + 120 < cLine)
 (hE : PassesOwn (model PySem.Challenge.rw_sc0103_01.row.prog w) (lawA dp un gd L a ccd outer) (lawE L a ccd) E)
include B X T hd hu hE
theorem law_c1 {vd : List Value} {kd ko kp kt kg : Nat} {D0 O P T0 G : Addr} {ns : List Int} {base : List (Addr × Obj)}
 (F : Fr h₀ L s.heap (fun y => if y = Str.ofString "against" then some (.ref G) else if y = Str.ofString "turned" then some (.ref T0) else if y = Str.ofString "plain" then some (.ref P) else if y = Str.ofString "order" then some (.ref O) else if y = Str.ofString "drawn" then some (.ref D0) else m y)) (N : News h₀ L s.heap ((O, listO [] ko) :: (P, listO [] kp) :: (T0, listO [] kt) :: (G, listO [] kg) :: (D0, listO vd kd) :: base))
 (hI : IntsAre vd ns) (h4 : 4 ≤ ns.length) (h6 : ns.length ≤ 6)
 (n1 : @Ne Nat O P) (n2 : @Ne Nat O T0) (n3 : @Ne Nat O G) (n4 : @Ne Nat O D0) (n5 : @Ne Nat P T0) (n6 : @Ne Nat P G) (n7 : @Ne Nat P D0) (n8 : @Ne Nat T0 G) (n9 : @Ne Nat T0 D0) (n10 : @Ne Nat G D0)
 (a1 : ∀ p ∈ base, p.1 ≠ O) (a2 : ∀ p ∈ base, p.1 ≠ P) (a3 : ∀ p ∈ base, p.1 ≠ T0) (a4 : ∀ p ∈ base, p.1 ≠ G)
 (next : ∀ (h : Heap) (tk : Nat) (u : Str → Option Value) (c : LS), InvL ns base O P T0 G D0 ns.length c → Fr h₀ L h (mapS [Str.ofString "place", Str.ofString "x", Str.ofString "half", Str.ofString "level", Str.ofString "hue", Str.ofString "share", Str.ofString "red", Str.ofString "green", Str.ofString "blue"] u (fun y => if y = Str.ofString "against" then some (.ref G) else if y = Str.ofString "turned" then some (.ref T0) else if y = Str.ofString "plain" then some (.ref P) else if y = Str.ofString "order" then some (.ref O) else if y = Str.ofString "drawn" then some (.ref D0) else m y) []) → News h₀ L h (ledL O P T0 G D0 vd kd c) → s.toks ≤ tk →
  wpAny (model PySem.Challenge.rw_sc0103_01.row.prog w) (lawA dp un gd L a ccd outer) (execs (lawD.body.drop 7) (lawE L a ccd)) Q E { s with heap := h, toks := tk })
 : wpAny (model PySem.Challenge.rw_sc0103_01.row.prog w) (lawA dp un gd L a ccd outer) (execs (lawD.body.drop 6) (lawE L a ccd)) Q E s := by
  have hvl := IntsAre.length hI
  have e7 : lawD.body.drop 6 = .For _ _ loopB _ _ :: lawD.body.drop 7 := rfl
  rw [e7]
  clear e7
  generalize lawD.body.drop 7 = rest7 at next ⊢
  refine wpAny_execs_cons (wpAny_toks s.toks (Nat.le_refl _) ?_)
  unfold lawE at next hE ⊢
  refine for_enter (by intro _; with_unfolding_all rfl) ?_
  try ((show let A0z := _; let Q0z := _; let E0z := _; wpAny _ A0z _ Q0z E0z _); intro A0z Q0z E0z)
  (k_steps <;> repeat' (first | ((k_here; (with_reducible show wpAny _ _ (subscriptTail _ _ (Value.ref _) (Value.int 0 _)) _ _ _); k_dflt (refine' item_tup0 ?k1 ?k2 ?_ ?k6; (case k1 => k_asm); (case k2 => (repeat (first | assumption | exact List.mem_cons_self | refine List.mem_cons_of_mem _ ?_))); (case k6 => with_unfolding_all rfl))) <;> k_steps) | ((k_here; k_dflt (refine' item_led ?k1 ?k2 ?k3 ?k4 ?k5 ?_ ?k6; (case k1 => k_asm); (case k2 => k_mem); (case k3 => omega); (case k4 => omega); (case k5 => assumption); (case k6 => with_unfolding_all rfl))) <;> k_steps) | ((k_here; (with_reducible refine add_tx2 (by omega) (by omega) ?_); intro _ _) <;> k_steps) | ((k_here; (with_reducible refine add_tx1 (by omega) ?_); intro _ _) <;> k_steps) | ((k_here; (with_reducible show wpAny _ _ (call (Value.builtin "len") [Value.ref _]) _ _ _); k_dflt (refine' len_led ?k1 ?k2 ?k3 ?_; (case k1 => k_asm); (case k2 => k_mem); (case k3 => omega)); intro _ _) <;> k_steps) | ((k_here; k_dflt (refine for_enter (by intro _; with_unfolding_all rfl) ?_)) <;> k_steps) | ((k_here; k_dflt (refine div_as rfl (by omega) (by omega) (by omega) ?_); intro _ _ _ _; (try dsimp only)) <;> k_steps) | ((k_here; (with_reducible show wpAny _ _ (subscriptTail _ (Expr.Slice (some _) none none _) _ _) _ _ _); k_dflt (refine' cut_sn ?k1 ?k2 ?k5 ?_ ?k3 ?k4; (case k1 => k_asm); (case k2 => k_asm); (case k5 => omega); (case k3 => with_unfolding_all rfl); (case k4 => (intro _; with_unfolding_all rfl))); (intro h9z t9z c9z F9z N9z); (try dsimp only); (try k_fold)) <;> k_steps) | ((k_here; (with_reducible show wpAny _ _ (subscriptTail _ (Expr.Slice none (some _) none _) _ _) _ _ _); k_dflt (refine' cut_ns ?k1 ?k2 ?k5 ?_ ?k3 ?k4; (case k1 => k_asm); (case k2 => k_asm); (case k5 => omega); (case k3 => with_unfolding_all rfl); (case k4 => (intro _; with_unfolding_all rfl))); (intro h9z t9z c9z F9z N9z); (try dsimp only); (try k_fold)) <;> k_steps)))
  refine for_range (by rfl) (by rfl) rfl hE (JS (fun _ : LS => []) (ledL O P T0 G D0 vd kd) (InvL ns base O P T0 G D0) [Str.ofString "place", Str.ofString "x", Str.ofString "half", Str.ofString "level", Str.ofString "hue", Str.ofString "share", Str.ofString "red", Str.ofString "green", Str.ofString "blue"] (fun y => if y = Str.ofString "against" then some (.ref G) else if y = Str.ofString "turned" then some (.ref T0) else if y = Str.ofString "plain" then some (.ref P) else if y = Str.ofString "order" then some (.ref O) else if y = Str.ofString "drawn" then some (.ref D0) else m y)) (by k_asm) (by k_asm) (js0 (⟨[], [], [], [], ko, kp, kt, kg, base⟩ : LS) (inv0 ns base O P T0 G D0 ko kp kt kg a1 a2 a3 a4) (fun p hp => nomatch hp)) (n := ns.length) (by assumption) (rg_small (by omega) (by omega) (by omega) (by omega)) (rg_size (by omega)) (step_S (fun c p hp => nomatch hp) ?turn) (fin_S ?fin)
  case turn =>
    rintro i v c u It oI hp tk hi ⟨tv, rfl⟩ hJ off F9 N9
    obtain ⟨tx0, hx⟩ := ints_at (by assumption : IntsAre vd ns) hi
    exact turn_c B X T (by omega) (by omega) F9 N9 hJ off hx rfl (by omega) (by omega) n1 n2 n3 n4 n5 n6 n7 n8 n9 n10
  case fin =>
    intro c u hp tk hJ F9 N9 htk9
    exact next _ _ _ _ hJ F9 N9 htk9
end
end Mine

end PartPLaw1
section DryPLaw0
local macro_rules | `(tactic| walk_at "z0") => `(tactic| skip)
local macro_rules | `(tactic| walk_at "z1") => `(tactic| skip)
theorem Mine.offPLaw0 : True := by
  w_top off
  k_with_none
  try walk1
  trivial
end DryPLaw0
section PartPLaw0
open PySem PySem.W PyProof.Rows
set_option maxRecDepth 100000
set_option maxHeartbeats 1000000
set_option linter.unusedSectionVars false
open PySem.Flt
namespace Mine

local macro_rules | `(tactic| walk_at "subscriptTail Name Slice ref ref") => `(tactic| (k_here; k_dflt (refine' slice_led ?k1 ?k2 ?k3 ?k4 ?k5 ?k6 ?k7 ?_; (case k1 => k_asm); (case k2 => k_asm); (case k3 => k_mem); (case k4 => (first | exact Or.inl ⟨rfl, rfl⟩ | exact Or.inr ⟨_, _, rfl, rfl⟩ | constructor)); (case k5 => (first | exact Or.inl ⟨rfl, rfl⟩ | exact Or.inr ⟨_, _, rfl, rfl⟩ | constructor)); (case k6 => exact slicePick_from' _ _); (case k7 => exact Nat.le_of_ble_eq_true rfl)); (intro D9 h9 F9 N9 l9); (have q9 := allLt_of l9); (dsimp only [AllLt] at q9); (try dsimp only); (try k_fold)))
section
variable {w : World} {mean : ExcName → Option Value} {mg mb : Str → Option Value} {dp un : Nat} {gd : Option (List Code)} {a : Addr} {ccd : Value} {outer : List Env} {A₀ : Around} {base h₀ : Heap} {L : Addr} {s : Shared} {Q : Flow → Shared → Prop} {E : Value → Shared → Prop} {m : Str → Option Value}
 (B : Below A₀ base outer h₀) (X : (Mine.hd.heap_1 w.params).In h₀)
 (T : Top Mine.hd.view_1 (looseW Mine.hd.view_1 [Str.ofString "insort_right", Str.ofString "bisect_right", Str.ofString "insort_left", Str.ofString "bisect_left", Str.ofString "Whitespace"]) mean mg mb h₀) (hd : dp + 5 < recursionLimit) (hu : un + 120 < cLine)
 (hE : PassesOwn (model PySem.Challenge.rw_sc0103_01.row.prog w) (lawA dp un gd L a ccd outer) (lawE L a ccd) E)
include B X T hd hu hE

theorem law_c0 {S : Addr} {vS : List Value} {nS : List Int} {o1 o2 : Obj}
 (F : Fr h₀ L s.heap (fun y => if y = Str.ofString "script" then some (.ref S) else m y)) (N : News h₀ L s.heap [(L + 1 + 1, o2), (L + 1, o1)]) (hS : h₀.IsList S vS.toArray) (hI : IntsAre vS nS) (hn : nS.length ≤ 63)
 (next : ∀ (h : Heap) (tk : Nat) (m' : Str → Option Value) (vd : List Value) (ns : List Int) (D0 O P T0 G : Addr) (kd : Nat), Fr h₀ L h ((fun y => if y = Str.ofString "against" then some (.ref G) else if y = Str.ofString "turned" then some (.ref T0) else if y = Str.ofString "plain" then some (.ref P) else if y = Str.ofString "order" then some (.ref O) else if y = Str.ofString "drawn" then some (.ref D0) else m' y)) → News h₀ L h ((O, listO [] 0) :: (P, listO [] 0) :: (T0, listO [] 0) :: (G, listO [] 0) :: (D0, listO vd kd) :: [(L + 1 + 1, o2), (L + 1, o1)]) → IntsAre vd ns → 4 ≤ ns.length → ns.length ≤ 6 →
  (@LT.lt Nat _ (L + 1 + 1) D0 ∧ @LT.lt Nat _ D0 O ∧ @LT.lt Nat _ O P ∧ @LT.lt Nat _ P T0 ∧ @LT.lt Nat _ T0 G) → @LE.le Nat _ 1 tk →
  wpAny (model PySem.Challenge.rw_sc0103_01.row.prog w) (lawA dp un gd L a ccd outer) (execs (lawD.body.drop 6) (lawE L a ccd)) Q E { s with heap := h, toks := tk })
 : wpAny (model PySem.Challenge.rw_sc0103_01.row.prog w) (lawA dp un gd L a ccd outer) (execs lawD.body (lawE L a ccd)) Q E s := by
  have e6 : lawD.body = _ :: _ :: _ :: _ :: _ :: _ :: lawD.body.drop 6 := rfl
  rw [e6]
  clear e6
  generalize lawD.body.drop 6 = rest6 at next ⊢
  unfold lawE at next hE ⊢
  try ((show let A0z := _; let Q0z := _; let E0z := _; wpAny _ A0z _ Q0z E0z _); intro A0z Q0z E0z)
  (k_steps <;> repeat' (first | ((k_here; (with_reducible show wpAny _ _ (binaryOp .Add (Value.ref _) (Value.ref _)) _ _ _); k_dflt (refine' add_ints ?k1 ?k2 ?k3 ?k4 ?k5 ?k6 ?k7 ?_; (case k1 => k_asm); (case k2 => k_asm); (case k3 => k_mem); (case k4 => k_mem); (case k5 => assumption); (case k6 => exact ints_drop (.cons _ _ (.cons _ _ (.cons _ _ (.cons _ _ .nil)))) _); (case k7 => (simp only [List.length_drop, List.length_cons, List.length_nil]; omega))); (intro D9z h9z F9z N9z l9z I9z); (have q9z := allLt_of l9z); (dsimp only [AllLt] at q9z); (try dsimp only); (try k_fold)) <;> k_steps)))
  have t1 : (List.take 6 nS).length = min 6 nS.length := List.length_take
  exact next _ _ _ _ _ _ _ _ _ _ _ (by k_asm) (cb_drop (by k_asm) (fun p hp => by simp only [List.mem_cons, List.not_mem_nil, or_false] at hp; rcases hp with rfl | rfl | rfl | rfl | rfl | rfl | rfl <;> (repeat (first | exact List.mem_cons_self | refine List.mem_cons_of_mem _ ?_)))) (by assumption) (by simp only [List.length_append, List.length_drop, List.length_cons, List.length_nil]; omega) (by simp only [List.length_append, List.length_drop, List.length_cons, List.length_nil]; omega) (by refine ⟨?_, ?_, ?_, ?_, ?_⟩ <;> omega) (by dsimp only at *; omega)
end
end Mine

end PartPLaw0
end LawRules
section PartPLawZ
open PySem PySem.W PyProof.Rows
set_option maxRecDepth 100000
set_option maxHeartbeats 8000000
set_option linter.unusedSectionVars false
open PySem.Flt
namespace Mine
noncomputable def keepE (L : Addr) (ext : List (Addr × Obj)) : List (Addr × Obj) := ext.filter fun p => decide (p.1 ≠ L + 1) && decide (p.1 ≠ L + 1 + 1)
theorem keep_mem {L : Addr} {ext : List (Addr × Obj)} {p : Addr × Obj} : p ∈ keepE L ext ↔ p ∈ ext ∧ p.1 ≠ L + 1 ∧ p.1 ≠ L + 1 + 1 := by
  unfold keepE
  rw [List.mem_filter]
  simp
theorem keep_tup {h₀ h : Heap} {L : Addr} {news ext : List (Addr × Obj)} {o1 o2 : Obj} {v1 v2 : Option Value} (N : News h₀ L h news) (hs : ∀ p ∈ ext, p ∈ news) (h1 : (L + 1, o1) ∈ news) (h2 : (L + 1 + 1, o2) ∈ news) (d1 : o1.data = .cell v1) (d2 : o2.data = .cell v2) {a : Addr} {o : Obj} (hm : (a, o) ∈ ext) (hn : ∀ v, o.data ≠ .cell v) : (a, o) ∈ keepE L ext :=
  keep_mem.mpr ⟨hm, ne_cell N (hs _ hm) h1 d1 hn, ne_cell N (hs _ hm) h2 d2 hn⟩
section
variable {w : World} {mean : ExcName → Option Value} {mg mb : Str → Option Value} {dp un : Nat} {gd : Option (List Code)} {a : Addr} {ccd : Value} {outer : List Env} {A₀ : Around} {base h₀ : Heap} {L : Addr} {s : Shared} {Q : Flow → Shared → Prop} {E : Value → Shared → Prop} {m : Str → Option Value}
 (B : Below A₀ base outer h₀) (X : (Mine.hd.heap_1 w.params).In h₀)
 (T : Top Mine.hd.view_1 (looseW Mine.hd.view_1 [Str.ofString "insort_right", Str.ofString "bisect_right", Str.ofString "insort_left", Str.ofString "bisect_left", Str.ofString "Whitespace"]) mean mg mb h₀) (hd : dp + 5 < recursionLimit) (hu : un + 120 < cLine)
 (hE : PassesOwn (model PySem.Challenge.rw_sc0103_01.row.prog w) (lawA dp un gd L a ccd outer) (lawE L a ccd) E)
include B X T hd hu hE
theorem law_all {S : Addr} {vS : List Value} {nS : List Int} {o1 o2 : Obj}
 (F : Fr h₀ L s.heap (fun y => if y = Str.ofString "script" then some (.ref S) else m y)) (N : News h₀ L s.heap [(L + 1 + 1, o2), (L + 1, o1)]) (hS : h₀.IsList S vS.toArray) (hI : IntsAre vS nS) (hn : nS.length ≤ 63) (d1 : o1.data = .cell none) (d2 : o2.data = .cell none)
 (next : ∀ (h : Heap) (tk : Nat) (m2 : Str → Option Value), Fr h₀ L h m2 → News h₀ L h [] → Q (.ret (.bool true)) { s with heap := h, toks := tk })
 : wpAny (model PySem.Challenge.rw_sc0103_01.row.prog w) (lawA dp un gd L a ccd outer) (execs lawD.body (lawE L a ccd)) Q E s := by
  refine law_c0 B X T hd hu hE F N hS hI hn ?_
  intro h tk m' vd ns D0 O P T0 G kd F1 N1 I1 h4 h6 lt htk
  obtain ⟨l1, l2, l3, l4, l5⟩ := lt
  have nat : ∀ x y : Nat, x < y → @Ne Nat y x := fun x y q => Nat.ne_of_gt q
  have nat' : ∀ x y : Nat, x < y → @Ne Nat x y := fun x y q => Nat.ne_of_lt q
  have l0 : @LT.lt Nat _ (L + 1) (L + 1 + 1) := Nat.lt_succ_self _
  have base_ne : ∀ (Z : Addr), @LT.lt Nat _ (L + 1 + 1) Z → ∀ p ∈ [(L + 1 + 1, o2), (L + 1, o1)], p.1 ≠ Z := by
    intro Z hZ p hp
    simp only [List.mem_cons, List.not_mem_nil, or_false] at hp
    rcases hp with rfl | rfl
    · exact nat' _ _ hZ
    · exact nat' _ _ (Nat.lt_trans l0 hZ)
  have gO := Nat.lt_trans l1 l2
  have gP := Nat.lt_trans gO l3
  have gT := Nat.lt_trans gP l4
  have gG := Nat.lt_trans gT l5
  refine law_c1 (s := { s with heap := h, toks := tk }) B X T hd hu hE F1 N1 I1 h4 h6 (nat' _ _ l3) (nat' _ _ (Nat.lt_trans l3 l4)) (nat' _ _ (Nat.lt_trans l3 (Nat.lt_trans l4 l5))) (nat _ _ l2) (nat' _ _ l4) (nat' _ _ (Nat.lt_trans l4 l5)) (nat _ _ (Nat.lt_trans l2 l3)) (nat' _ _ l5) (nat _ _ (Nat.lt_trans l2 (Nat.lt_trans l3 l4))) (nat _ _ (Nat.lt_trans l2 (Nat.lt_trans l3 (Nat.lt_trans l4 l5)))) (base_ne _ gO) (base_ne _ gP) (base_ne _ gT) (base_ne _ gG) ?_
  intro h tk2 u c J F2 N2 htk2
  obtain ⟨vo, vp, vt, vg, ko, kp, kt, kg, ext⟩ := c
  obtain ⟨lo, ord, cp, ct, cg, a1, a2, a3, a4, bs⟩ := J
  dsimp only at lo ord cp ct cg a1 a2 a3 a4 bs
  replace N2 : News h₀ L h ((O, listO vo ko) :: (P, listO vp kp) :: (T0, listO vt kt) :: (G, listO vg kg) :: (D0, listO vd kd) :: ext) := N2
  have sub : ∀ p ∈ ext, p ∈ (O, listO vo ko) :: (P, listO vp kp) :: (T0, listO vt kt) :: (G, listO vg kg) :: (D0, listO vd kd) :: ext := fun p hp => by simp [hp]
  have m1 := bs (L + 1, o1) (by simp)
  have m2 := bs (L + 1 + 1, o2) (by simp)
  have kt' : ∀ {a : Addr} {o : Obj}, (a, o) ∈ ext → (∀ v, o.data ≠ .cell v) → (a, o) ∈ keepE L ext := fun hm hn => keep_tup N2 sub (sub _ m1) (sub _ m2) d1 d2 hm hn
  have ord' : OrdL ns (keepE L ext) vo := fun j hj => by
    obtain ⟨a, t, u, v, e, hm⟩ := ord j hj
    exact ⟨a, t, u, v, e, kt' hm (by intro v h; cases h)⟩
  have colk : ∀ {vs : List Value} {l : List Nat} {col : Nat → Col}, ColsL ext vs l col → ColsL (keepE L ext) vs l col := fun H => ⟨H.1, fun j p e => by
    obtain ⟨a, t1, t2, t3, e1, e2⟩ := H.2 j p e
    exact ⟨a, t1, t2, t3, e1, kt' e2 (by intro v h; cases h)⟩⟩
  have N2' : News h₀ L h ((O, listO vo ko) :: (P, listO vp kp) :: (T0, listO vt kt) :: (G, listO vg kg) :: (D0, listO vd kd) :: (L + 1 + 1, o2) :: (L + 1, o1) :: keepE L ext) := fun p hp => N2 p (by
    simp only [List.mem_cons] at hp
    rcases hp with rfl | rfl | rfl | rfl | rfl | rfl | rfl | hp
    · simp
    · simp
    · simp
    · simp
    · simp
    · exact sub _ m2
    · exact sub _ m1
    · exact sub _ (keep_mem.mp hp).1)
  refine law_c2 (s := { s with heap := h, toks := tk2 }) B X T hd hu hE F2 N2' d1 ord' lo h4 h6 (Nat.le_trans htk htk2) (nat _ _ (Nat.lt_trans l0 gO)) (nat _ _ (Nat.lt_trans l0 gP)) (nat _ _ (Nat.lt_trans l0 gT)) (nat _ _ (Nat.lt_trans l0 gG)) (nat _ _ (Nat.lt_trans l0 l1)) (fun p hp => (keep_mem.mp hp).2.1) (nat _ _ gO) (nat _ _ gP) (nat _ _ gT) (nat _ _ gG) (nat _ _ l1) (fun p hp => (keep_mem.mp hp).2.2) ?_
  intro h tk3 m' D9 D3 D4 D5 c9 k3 k4 k5 vs ys3 ys4 ys5 t1 t2 o1' rest Fm hmO hmP hmT hmG hmE hmF hmS hmH N3 apart d1' mc mO m3 m4 m5 mP mT mG mext f3 f4 f5 hO htk3
  have hl := insAll_len (Wn ns) ns.length
  have hs := insAll_sorted (Wn ns) ns.length
  have cp' := colk cp
  have ct' := colk ct
  have cg' := colk cg
  generalize insAll (Wn ns) ns.length = l at hl hs cp' ct' cg' hO f3 f4 f5 d1' hmE
  have h4l : 4 ≤ l.length := by omega
  have h6l : l.length ≤ 6 := by omega
  have e3 : (fun y => if y = Str.ofString "plain" then some (Value.ref P) else if y = Str.ofString "turned" then some (Value.ref T0) else if y = Str.ofString "against" then some (Value.ref G) else if y = Str.ofString "other" then some (Value.str (tx (l.map fun p => !bitK ns p)) t2) else if y = Str.ofString "first" then some (Value.ref D3) else if y = Str.ofString "second" then some (Value.ref D4) else if y = Str.ofString "third" then some (Value.ref D5) else if y = Str.ofString "order" then some (Value.ref D9) else m' y) = m' := by
    funext y
    repeat' split
    all_goals first
      | (rename_i q; rw [q]; first | exact hmO.symm | exact hmP.symm | exact hmT.symm | exact hmG.symm | exact hmE.symm | exact hmF.symm | exact hmS.symm | exact hmH.symm)
      | rfl
  refine law_c3 (s := { s with heap := h, toks := tk3 }) (o2 := o2) (o1 := o1') (rest := rest) (kp := kp) (kt := kt) (kg := kg) (k3 := k3) (k4 := k4) (k5 := k5) B X T hd hu hE (by rw [e3]; exact Fm) (cb_drop N3 (fun p hp => by
    simp only [List.mem_cons] at hp ⊢
    rcases hp with rfl | rfl | rfl | rfl | rfl | rfl | rfl | rfl | hp
    · exact .inl rfl
    · exact .inr mc
    · exact .inr m3
    · exact .inr m4
    · exact .inr m5
    · exact .inr mP
    · exact .inr mT
    · exact .inr mG
    · exact .inr hp)) d1' f3 f4 f5 (cols_mono (colsRH (ns := ns) cp' (colP_is ns)) mext) (cols_mono (colsRH (ns := ns) (f := fT ns) ct' (colT_is ns)) mext) (cols_mono (colsRH (ns := ns) (f := fG ns) cg' (colG_is ns)) mext) cp'.1 ct'.1 cg'.1 h4l h6l htk3 ?_
  intro h tk4 u3 F4 N4 htk4
  have e4 : ∀ M : Str → Option Value, M (Str.ofString "plain") = some (Value.ref P) → M (Str.ofString "against") = some (Value.ref G) → M (Str.ofString "order") = some (Value.ref D9) → (fun y => if y = Str.ofString "plain" then some (Value.ref P) else if y = Str.ofString "against" then some (Value.ref G) else if y = Str.ofString "order" then some (Value.ref D9) else M y) = M := by
    intro M q1 q2 q3
    funext y
    repeat' split
    all_goals first
      | (rename_i q; rw [q]; first | exact q1.symm | exact q2.symm | exact q3.symm)
      | rfl
  refine law_c4 (s := { s with heap := h, toks := tk4 }) (o2 := o2) (o1 := o1') (rest := rest) (ext := keepE L ext) (kp := kp) (kg := kg) (c9 := c9) (v2 := none) B X T hd hu hE ((fun M FM q1 q2 q3 => (e4 M q1 q2 q3).symm ▸ FM : ∀ M : Str → Option Value, Fr h₀ L h M → M (Str.ofString "plain") = some (Value.ref P) → M (Str.ofString "against") = some (Value.ref G) → M (Str.ofString "order") = some (Value.ref D9) → Fr h₀ L h (fun y => if y = Str.ofString "plain" then some (Value.ref P) else if y = Str.ofString "against" then some (Value.ref G) else if y = Str.ofString "order" then some (Value.ref D9) else M y)) _ F4 (by rfl) (by rfl) (by rfl)) (cb_drop N4 (fun p hp => by
    simp only [List.mem_cons] at hp ⊢
    rcases hp with rfl | rfl | rfl | rfl | rfl | hp
    · exact .inl rfl
    · exact .inr (.inl rfl)
    · simp
    · simp
    · simp [mO]
    · simp [hp])) d2 mext hO (apart _ mP) (apart _ mG) (apart _ mO) apart (cols_mono (colsRL (ns := ns) cp' (colP_is ns)) mext) (cols_mono (colsRL (ns := ns) cg' (colG_is ns)) mext) cp'.1 cg'.1 h4l h6l htk4 ?_
  intro h tk5 DL ysL kL o2' F5 d2' N5 hFL
  have e5 : ∀ M : Str → Option Value, M (Str.ofString "order") = some (Value.ref D9) → M (Str.ofString "other") = some (Value.str (tx (l.map fun p => !bitK ns p)) t2) → (fun y => if y = Str.ofString "order" then some (Value.ref D9) else if y = Str.ofString "other" then some (Value.str (tx (l.map fun p => !bitK ns p)) t2) else M y) = M := by
    intro M q1 q2
    funext y
    repeat' split
    all_goals first
      | (rename_i q; rw [q]; first | exact q1.symm | exact q2.symm)
      | rfl
  refine law_c5 (s := { s with heap := h, toks := tk5 }) (o1 := o1') (rest := (DL, listO ysL kL) :: (L + 1 + 1, o2') :: (D9, listO vs c9) :: rest) B X T hd hu hE ((fun M FM q1 q2 => (e5 M q1 q2).symm ▸ FM : ∀ M : Str → Option Value, Fr h₀ L h M → M (Str.ofString "order") = some (Value.ref D9) → M (Str.ofString "other") = some (Value.str (tx (l.map fun p => !bitK ns p)) t2) → Fr h₀ L h (fun y => if y = Str.ofString "order" then some (Value.ref D9) else if y = Str.ofString "other" then some (Value.str (tx (l.map fun p => !bitK ns p)) t2) else M y)) _ F5 (by rfl) (by rfl)) (cb_drop N5 (fun p hp => by
    simp only [List.mem_cons] at hp ⊢
    rcases hp with rfl | rfl | rfl | rfl | hp <;> simp [*])) d1' h4l h6l ?_
  intro h tk6 u6 F6 N6
  have e6 : ∀ M : Str → Option Value, M (Str.ofString "order") = some (Value.ref D9) → (fun y => if y = Str.ofString "order" then some (Value.ref D9) else M y) = M := by
    intro M q1
    funext y
    split
    · rename_i q; rw [q]; exact q1.symm
    · rfl
  refine law_c6 (s := { s with heap := h, toks := tk6 }) (o1 := o1') (o2 := o2') (rest := rest) (ext := keepE L ext) (kL := kL) (c9 := c9) B X T hd hu hE ((fun M FM q1 => (e6 M q1).symm ▸ FM : ∀ M : Str → Option Value, Fr h₀ L h M → M (Str.ofString "order") = some (Value.ref D9) → Fr h₀ L h (fun y => if y = Str.ofString "order" then some (Value.ref D9) else M y)) _ F6 (by rfl)) (cb_drop N6 (fun p hp => by
    simp only [List.mem_cons] at hp ⊢
    rcases hp with rfl | rfl | rfl | rfl | hp <;> simp [*])) d1' d2' mext hO hFL hs h4l h6l ?_
  intro h tk7 m7 F7 N7
  exact next h tk7 m7 F7 (fun p hp => nomatch hp)
end
end Mine

end PartPLawZ
section DryPFin
local macro_rules | `(tactic| walk_at "z0") => `(tactic| skip)
theorem Mine.offPFin : True := by
  w_top off
  k_with_none
  try walk1
  trivial
end DryPFin
section PartPFin
open PySem PySem.W PyProof.Rows
set_option maxRecDepth 100000
set_option maxHeartbeats 8000000
theorem PySem.Challenge.cw_sc0103_01_holds : PySem.Challenge.rw_sc0103_01.Holds := by
  refine holds_law Mine.law_said fun _ => Mine.hd ?_
  k_go0
  all_goals try k_fold
  refine' Mine.law_all (outer := []) (A₀ := callerA) (by assumption) (by assumption) (by assumption) ?hd ?hu ?hE ?F ?N ?hS (by assumption) ?hn ?d1 ?d2 ?next
  case F => exact Mine.fr_over (by assumption) (by rfl)
  case N => k_asm
  case d1 => assumption
  case d2 => assumption
  case hd => decide
  case hu => decide
  case hE => passes_own
  case hS => assumption
  case hn => omega
  case next =>
    intro h tk m2 F9 N9

    k_steps

end PartPFin
