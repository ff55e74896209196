import PyProof.Rows.All
import Wide.All
import OpenK.AllK
import Wide.FinOn
import Lean
import PySem.Challenge.RW_pm0035_01
open PySem PySem.W PyProof.Rows PySem.Calls PySem.Spec
set_option Elab.async false
set_option maxRecDepth 100000
set_option maxHeartbeats 8000000
namespace Mine
open_top hd for PySem.Challenge.rw_pm0035_01
local macro_rules | `(tactic| walk_at "MyEnter") => `(tactic| (refine' code_def ?k1 ?k2 ?k3 ?k4 ?k5 ?kA ?kF ?kK ?k6 ?k7 ?k8 ?k9 ?kB ?_ ?c2 ?c3 ?c4 ?c5; (case kA => exact rfl); (case kF => exact rfl); (case kK => first | exact rfl | assumption); (case k1 => k_asm); (case k2 => k_asm); (case k3 => k_asm); (case k4 => k_asm); (case k5 => k_asm); (case k6 => k_is); (case k7 => k_is); (case k8 => ktr_room); (case k9 => first | exact BindsTo.of_eq rfl | (refine' kp_binds ?kx ?ke; (case kx => k_in); (case ke => exact fun _ => rfl))); (case c5 => decide); (case kB => exact locs rfl); (case c2 => exact rfl); (case c3 => exact rfl); (case c4 => exact rfl); k_whole; intro g' L' h' FG' F' N' B' X' T'; (try dsimp only); (try k_lift B'); (try k_fold)))
abbrev prog : Program := PySem.Challenge.pw_pm0035_01
theorem fillIt : (PySem.Challenge.rw_pm0035_01 = PySem.Challenge.rw_pm0035_01 ∧ hd.heap_39 = hd.heap_39) := by
  k_fill
  exact ⟨rfl, rfl⟩
/-- a mark at which the walk stands still -/
def Stop (P : Prop) : Prop := P
theorem Stop.intro {P : Prop} (h : Stop P) : P := h
theorem Stop.go {P : Prop} (h : P) : Stop P := h
/-- what a callable of one int gives, whatever stands besides `core` -/
abbrev KeyC (w : World) (p : Program) (loose : List Str) (mean : ExcName → Option Value) (mg mb : Str → Option Value) (lam : Addr) (core : List (Addr × Obj)) (dom : Int → Prop) (kv : Int → Value → Prop) : Prop :=
  ∀ (i : Int) (ti : Tok), dom i → ∀ (dp un : Nat) (gd : Option (List Code)) (cn : Str) (cs : Scope) (a : Addr) (ccd : Value) (cl : List (Str × Addr)) (outer : List Env) (A₀ : Around) (base h₀ : Heap) (L : Addr) (m : Str → Option Value) (s : Shared) (Q E : Value → Shared → Prop) (news : List (Addr × Obj)),
    Below A₀ base outer h₀ → Fr h₀ L s.heap m → (hd.heap_39 w.params).In h₀ → News h₀ L s.heap news → Top p loose mean mg mb h₀ → cs.kind = .function → (∀ q ∈ core, q ∈ news) → dp + 1 < recursionLimit → un + 8 < cLine →
    (∀ v h' tk', kv i v → Fr h₀ L h' m → News h₀ L h' news → Q v { s with heap := h', toks := tk' }) →
    wpAny (model prog w) (ktrTop dp un gd cn cs L a ccd cl outer) (call (.ref lam) [.int i ti]) Q E s
/-- the clock's number at a statement's start, as a successor: what is made behind it has a token that is not 0 -/
theorem gen_toks {α : Type} {M : Model} {A : Around} {t : Sem α} {Q : α → Shared → Prop} {E : Value → Shared → Prop} {hp : Heap} {g : Array GenState} {d : Drawn} {os : OsState} (n : Nat) (h : ∀ n : Nat, wpAny M A t Q E ⟨hp, g, d, n + 1, os⟩) : wpAny M A t Q E ⟨hp, g, d, n + 1, os⟩ := h n
theorem not_told {M : Model} {A : Around} {E : Value → Shared → Prop} {s : Shared} {t : Tok} {Q : Bool → Shared → Prop} {P : Params} (X : (hd.heap_39 P).In s.heap) (h : Q false s) : wpAny M A (sharingNotTold t) Q E s := by
  unfold sharingNotTold
  refine wpAny_bind ((looks_nsIn (r := none) X (by kernel_rfl)).here ?_)
  exact wpAny_pure h
section
local macro_rules | `(tactic| walk_at "exec While Compare cons nil") => `(tactic| refine Stop.intro ?_)
local macro_rules | `(tactic| walk_at "callWith ref") => `(tactic| refine Stop.intro ?_)
local macro_rules | `(tactic| walk_at "And") => `(tactic| refine Stop.intro ?_)

theorem bisR2 (w : World) (p : Program) (loose : List Str) (mean : ExcName → Option Value) (mg mb : Str → Option Value)
    (dp un : Nat) (gd : Option (List Code)) (cn : Str) (cs : Scope) (a : Addr) (ccd : Value) (cl : List (Str × Addr)) (outer : List Env) (A₀ : Around) (base h₀ : Heap) (L : Addr) (m : Str → Option Value) (s : Shared) (Q E : Value → Shared → Prop)
    (rest : List (Addr × Obj)) (la lam : Addr) (vs : List Value) (as : List Int) (nn : Nat) (x : Value) (hvs : IntsAre vs as) (hlen : as.length ≤ 16)
    (core : List (Addr × Obj)) (hcore : ∀ q ∈ core, q ∈ rest) (dom : Int → Prop) (hdom : ∀ i ∈ as, dom i) (kv : Int → Value → Prop) (fd : FuncData) (oc : Value) (od : Option Addr) (sl : Array (Option Value)) (hfn : (lam, (⟨oc, od, .func fd, sl⟩ : Obj)) ∈ rest) (hkey : KeyC w p loose mean mg mb lam core dom kv)
    (lt : Int → Bool) (hcmp : ∀ i v, dom i → kv i v → ∀ A Q E s, Q (.bool (lt i)) s → wpAny (model prog w) A (compareOp .Lt x v) Q E s)
    (r : Int) (hpart : ∀ j (h : j < as.length), lt as[j] = decide (r ≤ (j : Int))) (h0r : 0 ≤ r) (hrn : r ≤ as.length)
    (B : Below A₀ base outer h₀) (F : Fr h₀ L s.heap m) (X : (hd.heap_39 w.params).In h₀) (N : News h₀ L s.heap ((la, listOf vs.toArray nn) :: rest)) (T : Top p loose mean mg mb h₀) (hk : cs.kind = .function)
    (hdp : dp + 4 < recursionLimit) (hu : un + 40 < cLine)
    (hret : ∀ t h' tk', Fr h₀ L h' m → News h₀ L h' ((la, listOf vs.toArray nn) :: rest) → Q (.int r t) { s with heap := h', toks := tk' }) :
    wpAny (model prog w) (ktrTop dp un gd cn cs L a ccd cl outer) (call (.ref 39) [.ref la, x] [("key", .ref lam)]) Q E s := by
  refine wpAny_call ?_
  k_dflt (walk_at "MyEnter")
  k_steps
  refine Stop.go ?_
  rename Fr _ _ _ _ => F1
  rename News _ _ _ _ => N1
  with_unfolding_all refine' ksw_while (σ := (Int × Tok) × (Int × Tok)) (fun _ => (la, listOf vs.toArray nn) :: rest) (fun c => [("lo", .int c.1.1 c.1.2), ("hi", .int c.2.1 c.2.2)]) (fun _ => True) ["mid"] (fun c => 0 ≤ c.1.1 ∧ c.1.1 ≤ r ∧ r ≤ c.2.1 ∧ c.2.1 ≤ as.length) (fun c => (c.2.1 - c.1.1).toNat) ((0, _), (as.length, _)) F1 N1 trivial ?hk1 ?hp ?turn
  case hk1 =>
    refine List.forall_mem_cons.mpr ⟨?_, List.forall_mem_cons.mpr ⟨?_, List.forall_mem_nil _⟩⟩
    · with_unfolding_all rfl
    · with_unfolding_all rfl
  case hp => exact ⟨Int.le_refl 0, h0r, hrn, Int.le_refl _⟩
  rintro ⟨⟨lo, tlo⟩, ⟨hi, thi⟩⟩ u h2 tk2 - hP F2 N2
  clear F1 N1
  dsimp only at hP F2 N2 ⊢
  obtain ⟨hP1, hP2, hP3, hP4⟩ := hP
  k_steps
  rotate_left
  · rename Fr _ _ _ _ => F3
    rename News _ _ _ _ => N3
    have e : lo = r := by omega
    subst e
    exact hret _ _ _ F3 N3
  refine Stop.go ?_
  rename Fr _ _ _ _ => F3
  rename News _ _ _ _ => N3
  with_unfolding_all refine' callWith_F (FnAt.of N3 (List.mem_cons_of_mem _ hfn)) ?_
  k_steps
  refine Stop.go ⟨FnAt.of N3 (List.mem_cons_of_mem _ hfn), ?_⟩
  have hfd : (lo + hi).fdiv 2 = (lo + hi) / 2 := Int.fdiv_eq_ediv_of_nonneg _ (by decide)
  have hm0 : 0 ≤ (lo + hi).fdiv 2 := by rw [hfd]; omega
  have hm1 : (lo + hi).fdiv 2 < hi := by rw [hfd]; omega
  have hml : lo ≤ (lo + hi).fdiv 2 := by rw [hfd]; omega
  have hmn : ((lo + hi).fdiv 2).toNat < as.length := by omega
  have hge : as.getD ((lo + hi).fdiv 2).toNat 0 = as[((lo + hi).fdiv 2).toNat] := by simp [List.getD_eq_getElem?_getD, hmn]
  have hmem : as.getD ((lo + hi).fdiv 2).toNat 0 ∈ as := by rw [hge]; exact List.getElem_mem hmn
  have hlt : lt (as.getD ((lo + hi).fdiv 2).toNat 0) = decide (r ≤ (lo + hi).fdiv 2) := by
    rw [hge, hpart _ hmn, Int.toNat_of_nonneg hm0]
  with_unfolding_all refine' hkey _ _ (hdom _ hmem) _ _ _ _ _ _ _ _ _ _ _ _ _ _ _ _ _ _ ?B F3 ?X N3 ?T rfl (fun q hq => List.mem_cons_of_mem _ (hcore q hq)) ?d ?u ?ret
  case B => k_asm
  case X => k_asm
  case T => k_asm
  case d => ktr_room
  case u => ktr_units
  intro v h4 tk4 hkv F4 N4
  refine hcmp _ _ (hdom _ hmem) hkv _ _ _ _ ?_
  rw [hlt]
  clear F3 N3 hfd
  k_steps
  · skip
    rename Fr _ _ _ _ => F5
    rename News _ _ _ _ => N5
    with_unfolding_all refine' ksw_end ((lo, _), ((lo + hi).fdiv 2, _)) F5 N5 (fun q hq => hq) trivial ?hk ?hr ?hp ?hm
    case hk => exact List.forall_mem_cons.mpr ⟨by with_unfolding_all rfl, List.forall_mem_cons.mpr ⟨by with_unfolding_all rfl, List.forall_mem_nil _⟩⟩
    case hr =>
      intro z hz1 hz2
      have e1 : z ≠ "lo" := hz1 _ (List.mem_cons_self ..)
      have e2 : z ≠ "hi" := hz1 _ (List.mem_cons_of_mem _ (List.mem_cons_self ..))
      have e3 : z ≠ "mid" := by intro e; rw [e] at hz2; revert hz2; decide
      simp only [kstB, if_neg e1, if_neg e2, if_neg e3, hz2, Bool.false_eq_true, if_false]
    case hp => dsimp only; omega
    case hm => dsimp only; omega
  · skip
    rename Fr _ _ _ _ => F5
    rename News _ _ _ _ => N5
    with_unfolding_all refine' ksw_end (((lo + hi).fdiv 2 + 1, _), (hi, _)) F5 N5 (fun q hq => hq) trivial ?hk ?hr ?hp ?hm
    case hk => exact List.forall_mem_cons.mpr ⟨by with_unfolding_all rfl, List.forall_mem_cons.mpr ⟨by with_unfolding_all rfl, List.forall_mem_nil _⟩⟩
    case hr =>
      intro z hz1 hz2
      have e1 : z ≠ "lo" := hz1 _ (List.mem_cons_self ..)
      have e2 : z ≠ "hi" := hz1 _ (List.mem_cons_of_mem _ (List.mem_cons_self ..))
      have e3 : z ≠ "mid" := by intro e; rw [e] at hz2; revert hz2; decide
      simp only [kstB, if_neg e1, if_neg e2, if_neg e3, hz2, Bool.false_eq_true, if_false]
    case hp => dsimp only; omega
    case hm => dsimp only; omega

theorem bisR4 (w : World) (p : Program) (loose : List Str) (mean : ExcName → Option Value) (mg mb : Str → Option Value)
    (dp un : Nat) (gd : Option (List Code)) (cn : Str) (cs : Scope) (a : Addr) (ccd : Value) (cl : List (Str × Addr)) (outer : List Env) (A₀ : Around) (base h₀ : Heap) (L : Addr) (m : Str → Option Value) (s : Shared) (Q E : Value → Shared → Prop)
    (rest : List (Addr × Obj)) (la lam : Addr) (vs : List Value) (as : List Int) (nn : Nat) (x : Value) (tlo₀ : Tok) (hvs : IntsAre vs as) (hlen : as.length ≤ 16)
    (core : List (Addr × Obj)) (hcore : ∀ q ∈ core, q ∈ rest) (dom : Int → Prop) (hdom : ∀ i ∈ as, dom i) (kv : Int → Value → Prop) (fd : FuncData) (oc : Value) (od : Option Addr) (sl : Array (Option Value)) (hfn : (lam, (⟨oc, od, .func fd, sl⟩ : Obj)) ∈ rest) (hkey : KeyC w p loose mean mg mb lam core dom kv)
    (lt : Int → Bool) (hcmp : ∀ i v, dom i → kv i v → ∀ A Q E s, Q (.bool (lt i)) s → wpAny (model prog w) A (compareOp .Lt x v) Q E s)
    (r : Int) (hpart : ∀ j (h : j < as.length), lt as[j] = decide (r ≤ (j : Int))) (h0r : 0 ≤ r) (hrn : r ≤ as.length)
    (B : Below A₀ base outer h₀) (F : Fr h₀ L s.heap m) (X : (hd.heap_39 w.params).In h₀) (N : News h₀ L s.heap ((la, listOf vs.toArray nn) :: rest)) (T : Top p loose mean mg mb h₀) (hk : cs.kind = .function)
    (hdp : dp + 4 < recursionLimit) (hu : un + 40 < cLine)
    (hret : ∀ t h' tk', Fr h₀ L h' m → News h₀ L h' ((la, listOf vs.toArray nn) :: rest) → Q (.int r t) { s with heap := h', toks := tk' }) :
    wpAny (model prog w) (ktrTop dp un gd cn cs L a ccd cl outer) (call (.ref 39) [.ref la, x, .int 0 tlo₀, .none] [("key", .ref lam)]) Q E s := by
  refine wpAny_call ?_
  k_dflt (walk_at "MyEnter")
  k_steps
  refine Stop.go ?_
  rename Fr _ _ _ _ => F1
  rename News _ _ _ _ => N1
  with_unfolding_all refine' ksw_while (σ := (Int × Tok) × (Int × Tok)) (fun _ => (la, listOf vs.toArray nn) :: rest) (fun c => [("lo", .int c.1.1 c.1.2), ("hi", .int c.2.1 c.2.2)]) (fun _ => True) ["mid"] (fun c => 0 ≤ c.1.1 ∧ c.1.1 ≤ r ∧ r ≤ c.2.1 ∧ c.2.1 ≤ as.length) (fun c => (c.2.1 - c.1.1).toNat) ((0, _), (as.length, _)) F1 N1 trivial ?hk1 ?hp ?turn
  case hk1 =>
    refine List.forall_mem_cons.mpr ⟨?_, List.forall_mem_cons.mpr ⟨?_, List.forall_mem_nil _⟩⟩
    · with_unfolding_all rfl
    · with_unfolding_all rfl
  case hp => exact ⟨Int.le_refl 0, h0r, hrn, Int.le_refl _⟩
  rintro ⟨⟨lo, tlo⟩, ⟨hi, thi⟩⟩ u h2 tk2 - hP F2 N2
  clear F1 N1
  dsimp only at hP F2 N2 ⊢
  obtain ⟨hP1, hP2, hP3, hP4⟩ := hP
  k_steps
  rotate_left
  · rename Fr _ _ _ _ => F3
    rename News _ _ _ _ => N3
    have e : lo = r := by omega
    subst e
    exact hret _ _ _ F3 N3
  refine Stop.go ?_
  rename Fr _ _ _ _ => F3
  rename News _ _ _ _ => N3
  with_unfolding_all refine' callWith_F (FnAt.of N3 (List.mem_cons_of_mem _ hfn)) ?_
  k_steps
  refine Stop.go ⟨FnAt.of N3 (List.mem_cons_of_mem _ hfn), ?_⟩
  have hfd : (lo + hi).fdiv 2 = (lo + hi) / 2 := Int.fdiv_eq_ediv_of_nonneg _ (by decide)
  have hm0 : 0 ≤ (lo + hi).fdiv 2 := by rw [hfd]; omega
  have hm1 : (lo + hi).fdiv 2 < hi := by rw [hfd]; omega
  have hml : lo ≤ (lo + hi).fdiv 2 := by rw [hfd]; omega
  have hmn : ((lo + hi).fdiv 2).toNat < as.length := by omega
  have hge : as.getD ((lo + hi).fdiv 2).toNat 0 = as[((lo + hi).fdiv 2).toNat] := by simp [List.getD_eq_getElem?_getD, hmn]
  have hmem : as.getD ((lo + hi).fdiv 2).toNat 0 ∈ as := by rw [hge]; exact List.getElem_mem hmn
  have hlt : lt (as.getD ((lo + hi).fdiv 2).toNat 0) = decide (r ≤ (lo + hi).fdiv 2) := by
    rw [hge, hpart _ hmn, Int.toNat_of_nonneg hm0]
  with_unfolding_all refine' hkey _ _ (hdom _ hmem) _ _ _ _ _ _ _ _ _ _ _ _ _ _ _ _ _ _ ?B F3 ?X N3 ?T rfl (fun q hq => List.mem_cons_of_mem _ (hcore q hq)) ?d ?u ?ret
  case B => k_asm
  case X => k_asm
  case T => k_asm
  case d => ktr_room
  case u => ktr_units
  intro v h4 tk4 hkv F4 N4
  refine hcmp _ _ (hdom _ hmem) hkv _ _ _ _ ?_
  rw [hlt]
  clear F3 N3 hfd
  k_steps
  · skip
    rename Fr _ _ _ _ => F5
    rename News _ _ _ _ => N5
    with_unfolding_all refine' ksw_end ((lo, _), ((lo + hi).fdiv 2, _)) F5 N5 (fun q hq => hq) trivial ?hk ?hr ?hp ?hm
    case hk => exact List.forall_mem_cons.mpr ⟨by with_unfolding_all rfl, List.forall_mem_cons.mpr ⟨by with_unfolding_all rfl, List.forall_mem_nil _⟩⟩
    case hr =>
      intro z hz1 hz2
      have e1 : z ≠ "lo" := hz1 _ (List.mem_cons_self ..)
      have e2 : z ≠ "hi" := hz1 _ (List.mem_cons_of_mem _ (List.mem_cons_self ..))
      have e3 : z ≠ "mid" := by intro e; rw [e] at hz2; revert hz2; decide
      simp only [kstB, if_neg e1, if_neg e2, if_neg e3, hz2, Bool.false_eq_true, if_false]
    case hp => dsimp only; omega
    case hm => dsimp only; omega
  · skip
    rename Fr _ _ _ _ => F5
    rename News _ _ _ _ => N5
    with_unfolding_all refine' ksw_end (((lo + hi).fdiv 2 + 1, _), (hi, _)) F5 N5 (fun q hq => hq) trivial ?hk ?hr ?hp ?hm
    case hk => exact List.forall_mem_cons.mpr ⟨by with_unfolding_all rfl, List.forall_mem_cons.mpr ⟨by with_unfolding_all rfl, List.forall_mem_nil _⟩⟩
    case hr =>
      intro z hz1 hz2
      have e1 : z ≠ "lo" := hz1 _ (List.mem_cons_self ..)
      have e2 : z ≠ "hi" := hz1 _ (List.mem_cons_of_mem _ (List.mem_cons_self ..))
      have e3 : z ≠ "mid" := by intro e; rw [e] at hz2; revert hz2; decide
      simp only [kstB, if_neg e1, if_neg e2, if_neg e3, hz2, Bool.false_eq_true, if_false]
    case hp => dsimp only; omega
    case hm => dsimp only; omega

theorem bisL2 (w : World) (p : Program) (loose : List Str) (mean : ExcName → Option Value) (mg mb : Str → Option Value)
    (dp un : Nat) (gd : Option (List Code)) (cn : Str) (cs : Scope) (a : Addr) (ccd : Value) (cl : List (Str × Addr)) (outer : List Env) (A₀ : Around) (base h₀ : Heap) (L : Addr) (m : Str → Option Value) (s : Shared) (Q E : Value → Shared → Prop)
    (rest : List (Addr × Obj)) (la lam : Addr) (vs : List Value) (as : List Int) (nn : Nat) (x : Value) (hvs : IntsAre vs as) (hlen : as.length ≤ 16)
    (core : List (Addr × Obj)) (hcore : ∀ q ∈ core, q ∈ rest) (dom : Int → Prop) (hdom : ∀ i ∈ as, dom i) (kv : Int → Value → Prop) (fd : FuncData) (oc : Value) (od : Option Addr) (sl : Array (Option Value)) (hfn : (lam, (⟨oc, od, .func fd, sl⟩ : Obj)) ∈ rest) (hkey : KeyC w p loose mean mg mb lam core dom kv)
    (lt : Int → Bool) (hcmp : ∀ i v, dom i → kv i v → ∀ A Q E s, Q (.bool (lt i)) s → wpAny (model prog w) A (compareOp .Lt v x) Q E s)
    (r : Int) (hpart : ∀ j (h : j < as.length), lt as[j] = decide ((j : Int) < r)) (h0r : 0 ≤ r) (hrn : r ≤ as.length)
    (B : Below A₀ base outer h₀) (F : Fr h₀ L s.heap m) (X : (hd.heap_39 w.params).In h₀) (N : News h₀ L s.heap ((la, listOf vs.toArray nn) :: rest)) (T : Top p loose mean mg mb h₀) (hk : cs.kind = .function)
    (hdp : dp + 4 < recursionLimit) (hu : un + 40 < cLine)
    (hret : ∀ t h' tk', Fr h₀ L h' m → News h₀ L h' ((la, listOf vs.toArray nn) :: rest) → Q (.int r t) { s with heap := h', toks := tk' }) :
    wpAny (model prog w) (ktrTop dp un gd cn cs L a ccd cl outer) (call (.ref 57) [.ref la, x] [("key", .ref lam)]) Q E s := by
  refine wpAny_call ?_
  k_dflt (walk_at "MyEnter")
  k_steps
  refine Stop.go ?_
  rename Fr _ _ _ _ => F1
  rename News _ _ _ _ => N1
  with_unfolding_all refine' ksw_while (σ := (Int × Tok) × (Int × Tok)) (fun _ => (la, listOf vs.toArray nn) :: rest) (fun c => [("lo", .int c.1.1 c.1.2), ("hi", .int c.2.1 c.2.2)]) (fun _ => True) ["mid"] (fun c => 0 ≤ c.1.1 ∧ c.1.1 ≤ r ∧ r ≤ c.2.1 ∧ c.2.1 ≤ as.length) (fun c => (c.2.1 - c.1.1).toNat) ((0, _), (as.length, _)) F1 N1 trivial ?hk1 ?hp ?turn
  case hk1 =>
    refine List.forall_mem_cons.mpr ⟨?_, List.forall_mem_cons.mpr ⟨?_, List.forall_mem_nil _⟩⟩
    · with_unfolding_all rfl
    · with_unfolding_all rfl
  case hp => exact ⟨Int.le_refl 0, h0r, hrn, Int.le_refl _⟩
  rintro ⟨⟨lo, tlo⟩, ⟨hi, thi⟩⟩ u h2 tk2 - hP F2 N2
  clear F1 N1
  dsimp only at hP F2 N2 ⊢
  obtain ⟨hP1, hP2, hP3, hP4⟩ := hP
  k_steps
  rotate_left
  · rename Fr _ _ _ _ => F3
    rename News _ _ _ _ => N3
    have e : lo = r := by omega
    subst e
    exact hret _ _ _ F3 N3
  refine Stop.go ?_
  rename Fr _ _ _ _ => F3
  rename News _ _ _ _ => N3
  with_unfolding_all refine' callWith_F (FnAt.of N3 (List.mem_cons_of_mem _ hfn)) ?_
  k_steps
  refine Stop.go ⟨FnAt.of N3 (List.mem_cons_of_mem _ hfn), ?_⟩
  have hfd : (lo + hi).fdiv 2 = (lo + hi) / 2 := Int.fdiv_eq_ediv_of_nonneg _ (by decide)
  have hm0 : 0 ≤ (lo + hi).fdiv 2 := by rw [hfd]; omega
  have hm1 : (lo + hi).fdiv 2 < hi := by rw [hfd]; omega
  have hml : lo ≤ (lo + hi).fdiv 2 := by rw [hfd]; omega
  have hmn : ((lo + hi).fdiv 2).toNat < as.length := by omega
  have hge : as.getD ((lo + hi).fdiv 2).toNat 0 = as[((lo + hi).fdiv 2).toNat] := by simp [List.getD_eq_getElem?_getD, hmn]
  have hmem : as.getD ((lo + hi).fdiv 2).toNat 0 ∈ as := by rw [hge]; exact List.getElem_mem hmn
  have hlt : lt (as.getD ((lo + hi).fdiv 2).toNat 0) = decide ((lo + hi).fdiv 2 < r) := by
    rw [hge, hpart _ hmn, Int.toNat_of_nonneg hm0]
  with_unfolding_all refine' hkey _ _ (hdom _ hmem) _ _ _ _ _ _ _ _ _ _ _ _ _ _ _ _ _ _ ?B F3 ?X N3 ?T rfl (fun q hq => List.mem_cons_of_mem _ (hcore q hq)) ?d ?u ?ret
  case B => k_asm
  case X => k_asm
  case T => k_asm
  case d => ktr_room
  case u => ktr_units
  intro v h4 tk4 hkv F4 N4
  k_steps
  refine hcmp _ _ (hdom _ hmem) hkv _ _ _ _ ?_
  rw [hlt]
  clear F3 N3 hfd
  k_steps
  · skip
    rename Fr _ _ _ _ => F5
    rename News _ _ _ _ => N5
    with_unfolding_all refine' ksw_end (((lo + hi).fdiv 2 + 1, _), (hi, _)) F5 N5 (fun q hq => hq) trivial ?hk ?hr ?hp ?hm
    case hk => exact List.forall_mem_cons.mpr ⟨by with_unfolding_all rfl, List.forall_mem_cons.mpr ⟨by with_unfolding_all rfl, List.forall_mem_nil _⟩⟩
    case hr =>
      intro z hz1 hz2
      have e1 : z ≠ "lo" := hz1 _ (List.mem_cons_self ..)
      have e2 : z ≠ "hi" := hz1 _ (List.mem_cons_of_mem _ (List.mem_cons_self ..))
      have e3 : z ≠ "mid" := by intro e; rw [e] at hz2; revert hz2; decide
      simp only [kstB, if_neg e1, if_neg e2, if_neg e3, hz2, Bool.false_eq_true, if_false]
    case hp => dsimp only; omega
    case hm => dsimp only; omega
  · skip
    rename Fr _ _ _ _ => F5
    rename News _ _ _ _ => N5
    with_unfolding_all refine' ksw_end ((lo, _), ((lo + hi).fdiv 2, _)) F5 N5 (fun q hq => hq) trivial ?hk ?hr ?hp ?hm
    case hk => exact List.forall_mem_cons.mpr ⟨by with_unfolding_all rfl, List.forall_mem_cons.mpr ⟨by with_unfolding_all rfl, List.forall_mem_nil _⟩⟩
    case hr =>
      intro z hz1 hz2
      have e1 : z ≠ "lo" := hz1 _ (List.mem_cons_self ..)
      have e2 : z ≠ "hi" := hz1 _ (List.mem_cons_of_mem _ (List.mem_cons_self ..))
      have e3 : z ≠ "mid" := by intro e; rw [e] at hz2; revert hz2; decide
      simp only [kstB, if_neg e1, if_neg e2, if_neg e3, hz2, Bool.false_eq_true, if_false]
    case hp => dsimp only; omega
    case hm => dsimp only; omega

theorem bisL4 (w : World) (p : Program) (loose : List Str) (mean : ExcName → Option Value) (mg mb : Str → Option Value)
    (dp un : Nat) (gd : Option (List Code)) (cn : Str) (cs : Scope) (a : Addr) (ccd : Value) (cl : List (Str × Addr)) (outer : List Env) (A₀ : Around) (base h₀ : Heap) (L : Addr) (m : Str → Option Value) (s : Shared) (Q E : Value → Shared → Prop)
    (rest : List (Addr × Obj)) (la lam : Addr) (vs : List Value) (as : List Int) (nn : Nat) (x : Value) (tlo₀ : Tok) (hvs : IntsAre vs as) (hlen : as.length ≤ 16)
    (core : List (Addr × Obj)) (hcore : ∀ q ∈ core, q ∈ rest) (dom : Int → Prop) (hdom : ∀ i ∈ as, dom i) (kv : Int → Value → Prop) (fd : FuncData) (oc : Value) (od : Option Addr) (sl : Array (Option Value)) (hfn : (lam, (⟨oc, od, .func fd, sl⟩ : Obj)) ∈ rest) (hkey : KeyC w p loose mean mg mb lam core dom kv)
    (lt : Int → Bool) (hcmp : ∀ i v, dom i → kv i v → ∀ A Q E s, Q (.bool (lt i)) s → wpAny (model prog w) A (compareOp .Lt v x) Q E s)
    (r : Int) (hpart : ∀ j (h : j < as.length), lt as[j] = decide ((j : Int) < r)) (h0r : 0 ≤ r) (hrn : r ≤ as.length)
    (B : Below A₀ base outer h₀) (F : Fr h₀ L s.heap m) (X : (hd.heap_39 w.params).In h₀) (N : News h₀ L s.heap ((la, listOf vs.toArray nn) :: rest)) (T : Top p loose mean mg mb h₀) (hk : cs.kind = .function)
    (hdp : dp + 4 < recursionLimit) (hu : un + 40 < cLine)
    (hret : ∀ t h' tk', Fr h₀ L h' m → News h₀ L h' ((la, listOf vs.toArray nn) :: rest) → Q (.int r t) { s with heap := h', toks := tk' }) :
    wpAny (model prog w) (ktrTop dp un gd cn cs L a ccd cl outer) (call (.ref 57) [.ref la, x, .int 0 tlo₀, .none] [("key", .ref lam)]) Q E s := by
  refine wpAny_call ?_
  k_dflt (walk_at "MyEnter")
  k_steps
  refine Stop.go ?_
  rename Fr _ _ _ _ => F1
  rename News _ _ _ _ => N1
  with_unfolding_all refine' ksw_while (σ := (Int × Tok) × (Int × Tok)) (fun _ => (la, listOf vs.toArray nn) :: rest) (fun c => [("lo", .int c.1.1 c.1.2), ("hi", .int c.2.1 c.2.2)]) (fun _ => True) ["mid"] (fun c => 0 ≤ c.1.1 ∧ c.1.1 ≤ r ∧ r ≤ c.2.1 ∧ c.2.1 ≤ as.length) (fun c => (c.2.1 - c.1.1).toNat) ((0, _), (as.length, _)) F1 N1 trivial ?hk1 ?hp ?turn
  case hk1 =>
    refine List.forall_mem_cons.mpr ⟨?_, List.forall_mem_cons.mpr ⟨?_, List.forall_mem_nil _⟩⟩
    · with_unfolding_all rfl
    · with_unfolding_all rfl
  case hp => exact ⟨Int.le_refl 0, h0r, hrn, Int.le_refl _⟩
  rintro ⟨⟨lo, tlo⟩, ⟨hi, thi⟩⟩ u h2 tk2 - hP F2 N2
  clear F1 N1
  dsimp only at hP F2 N2 ⊢
  obtain ⟨hP1, hP2, hP3, hP4⟩ := hP
  k_steps
  rotate_left
  · rename Fr _ _ _ _ => F3
    rename News _ _ _ _ => N3
    have e : lo = r := by omega
    subst e
    exact hret _ _ _ F3 N3
  refine Stop.go ?_
  rename Fr _ _ _ _ => F3
  rename News _ _ _ _ => N3
  with_unfolding_all refine' callWith_F (FnAt.of N3 (List.mem_cons_of_mem _ hfn)) ?_
  k_steps
  refine Stop.go ⟨FnAt.of N3 (List.mem_cons_of_mem _ hfn), ?_⟩
  have hfd : (lo + hi).fdiv 2 = (lo + hi) / 2 := Int.fdiv_eq_ediv_of_nonneg _ (by decide)
  have hm0 : 0 ≤ (lo + hi).fdiv 2 := by rw [hfd]; omega
  have hm1 : (lo + hi).fdiv 2 < hi := by rw [hfd]; omega
  have hml : lo ≤ (lo + hi).fdiv 2 := by rw [hfd]; omega
  have hmn : ((lo + hi).fdiv 2).toNat < as.length := by omega
  have hge : as.getD ((lo + hi).fdiv 2).toNat 0 = as[((lo + hi).fdiv 2).toNat] := by simp [List.getD_eq_getElem?_getD, hmn]
  have hmem : as.getD ((lo + hi).fdiv 2).toNat 0 ∈ as := by rw [hge]; exact List.getElem_mem hmn
  have hlt : lt (as.getD ((lo + hi).fdiv 2).toNat 0) = decide ((lo + hi).fdiv 2 < r) := by
    rw [hge, hpart _ hmn, Int.toNat_of_nonneg hm0]
  with_unfolding_all refine' hkey _ _ (hdom _ hmem) _ _ _ _ _ _ _ _ _ _ _ _ _ _ _ _ _ _ ?B F3 ?X N3 ?T rfl (fun q hq => List.mem_cons_of_mem _ (hcore q hq)) ?d ?u ?ret
  case B => k_asm
  case X => k_asm
  case T => k_asm
  case d => ktr_room
  case u => ktr_units
  intro v h4 tk4 hkv F4 N4
  k_steps
  refine hcmp _ _ (hdom _ hmem) hkv _ _ _ _ ?_
  rw [hlt]
  clear F3 N3 hfd
  k_steps
  · skip
    rename Fr _ _ _ _ => F5
    rename News _ _ _ _ => N5
    with_unfolding_all refine' ksw_end (((lo + hi).fdiv 2 + 1, _), (hi, _)) F5 N5 (fun q hq => hq) trivial ?hk ?hr ?hp ?hm
    case hk => exact List.forall_mem_cons.mpr ⟨by with_unfolding_all rfl, List.forall_mem_cons.mpr ⟨by with_unfolding_all rfl, List.forall_mem_nil _⟩⟩
    case hr =>
      intro z hz1 hz2
      have e1 : z ≠ "lo" := hz1 _ (List.mem_cons_self ..)
      have e2 : z ≠ "hi" := hz1 _ (List.mem_cons_of_mem _ (List.mem_cons_self ..))
      have e3 : z ≠ "mid" := by intro e; rw [e] at hz2; revert hz2; decide
      simp only [kstB, if_neg e1, if_neg e2, if_neg e3, hz2, Bool.false_eq_true, if_false]
    case hp => dsimp only; omega
    case hm => dsimp only; omega
  · skip
    rename Fr _ _ _ _ => F5
    rename News _ _ _ _ => N5
    with_unfolding_all refine' ksw_end ((lo, _), ((lo + hi).fdiv 2, _)) F5 N5 (fun q hq => hq) trivial ?hk ?hr ?hp ?hm
    case hk => exact List.forall_mem_cons.mpr ⟨by with_unfolding_all rfl, List.forall_mem_cons.mpr ⟨by with_unfolding_all rfl, List.forall_mem_nil _⟩⟩
    case hr =>
      intro z hz1 hz2
      have e1 : z ≠ "lo" := hz1 _ (List.mem_cons_self ..)
      have e2 : z ≠ "hi" := hz1 _ (List.mem_cons_of_mem _ (List.mem_cons_self ..))
      have e3 : z ≠ "mid" := by intro e; rw [e] at hz2; revert hz2; decide
      simp only [kstB, if_neg e1, if_neg e2, if_neg e3, hz2, Bool.false_eq_true, if_false]
    case hp => dsimp only; omega
    case hm => dsimp only; omega

end
theorem ints_take {vs : List Value} {ns : List Int} (h : IntsAre vs ns) : ∀ k, IntsAre (vs.take k) (ns.take k) := by
  induction h with
  | nil => intro k; simp; exact .nil
  | cons n t h ih =>
    intro k
    cases k with
    | zero => exact .nil
    | succ k => exact .cons n t (ih k)
theorem ints_drop {vs : List Value} {ns : List Int} (h : IntsAre vs ns) : ∀ k, IntsAre (vs.drop k) (ns.drop k) := by
  induction h with
  | nil => intro k; simp; exact .nil
  | cons n t h ih =>
    intro k
    cases k with
    | zero => exact .cons n t h
    | succ k => exact ih k
section
local macro_rules | `(tactic| walk_at "NoSuchKey") => `(tactic| skip)
local macro_rules | `(tactic| walk_at "call ref") => `(tactic| refine Stop.intro ?_)
local macro_rules | `(tactic| walk_at "last callWith ref") => `(tactic| refine Stop.intro ?_)
local macro_rules | `(tactic| walk_at "last And") => `(tactic| refine Stop.intro ?_)

theorem insR (w : World) (p : Program) (loose : List Str) (mean : ExcName → Option Value) (mg mb : Str → Option Value)
    (dp un : Nat) (gd : Option (List Code)) (cn : Str) (cs : Scope) (a : Addr) (ccd : Value) (cl : List (Str × Addr)) (outer : List Env) (A₀ : Around) (base h₀ : Heap) (L : Addr) (m : Str → Option Value) (s : Shared) (Q E : Value → Shared → Prop)
    (rest : List (Addr × Obj)) (la lam : Addr) (vs : List Value) (as : List Int) (nn : Nat) (x : Int) (tx : Tok) (hvs : IntsAre vs as) (hlen : as.length ≤ 16) (hla : ∀ q ∈ rest, q.1 ≠ la)
    (core : List (Addr × Obj)) (hcore : ∀ q ∈ core, q ∈ rest) (dom : Int → Prop) (hdom : ∀ i ∈ as, dom i) (hx : dom x) (kv : Int → Value → Prop) (fd : FuncData) (oc : Value) (od : Option Addr) (sl : Array (Option Value)) (hfn : (lam, (⟨oc, od, .func fd, sl⟩ : Obj)) ∈ rest) (hkey : KeyC w p loose mean mg mb lam core dom kv)
    (lt : Int → Int → Bool) (hcmp : ∀ i j u v, dom i → dom j → kv i u → kv j v → ∀ A Q E s, Q (.bool (lt i j)) s → wpAny (model prog w) A (compareOp .Lt u v) Q E s)
    (r : Int) (hpart : ∀ j (h : j < as.length), lt x as[j] = decide (r ≤ (j : Int))) (h0r : 0 ≤ r) (hrn : r ≤ as.length)
    (B : Below A₀ base outer h₀) (F : Fr h₀ L s.heap m) (X : (hd.heap_39 w.params).In h₀) (N : News h₀ L s.heap ((la, listOf vs.toArray nn) :: rest)) (T : Top p loose mean mg mb h₀) (hk : cs.kind = .function)
    (hdp : dp + 6 < recursionLimit) (hu : un + 60 < cLine)
    (hret : ∀ vs' n' h' tk', IntsAre vs' (as.take r.toNat ++ x :: as.drop r.toNat) → Fr h₀ L h' m → News h₀ L h' ((la, listOf vs'.toArray n') :: rest) → Q .none { s with heap := h', toks := tk' }) :
    wpAny (model prog w) (ktrTop dp un gd cn cs L a ccd cl outer) (call (.ref 30) [.ref la, .int x tx] [("key", .ref lam)]) Q E s := by
  refine wpAny_call ?_
  k_dflt (walk_at "MyEnter")
  k_steps
  refine Stop.go ?_
  rename Fr _ _ _ _ => F1
  rename News _ _ _ _ => N1
  with_unfolding_all refine' callWith_F (FnAt.of N1 (List.mem_cons_of_mem _ hfn)) ?_
  k_steps
  · exact FnAt.of N1 (List.mem_cons_of_mem _ hfn)
  refine Stop.go ?_
  with_unfolding_all refine' hkey _ _ hx _ _ _ _ _ _ _ _ _ _ _ _ _ _ _ _ _ _ ?B F1 ?X N1 ?T rfl (fun q hq => List.mem_cons_of_mem _ (hcore q hq)) ?d ?u ?ret
  case B => k_asm
  case X => k_asm
  case T => k_asm
  case d => ktr_room
  case u => ktr_units
  intro v h4 tk4 hkv F4 N4
  clear F1 N1
  k_steps
  refine Stop.go ?_
  with_unfolding_all refine' bisR4 w p loose mean mg mb _ _ _ _ _ _ _ _ _ _ _ _ _ _ _ _ _ rest la lam vs as nn v _ hvs hlen core hcore dom hdom kv fd oc od sl hfn hkey (lt x) (fun j u hj hu => hcmp x j v u hx hj hkv hu) r hpart h0r hrn ?B2 F4 ?X2 N4 ?T2 rfl ?d2 ?u2 ?ret2
  case B2 => k_asm
  case X2 => k_asm
  case T2 => k_asm
  case d2 => ktr_room
  case u2 => ktr_units
  intro t h5 tk5 F5 N5
  clear F4 N4
  k_steps
  rename Fr _ _ _ _ => F6
  rename News _ _ _ _ => N6
  have hl := hvs.length
  have hins : kl_ins vs.toArray.toList r (.int x tx) = vs.take r.toNat ++ .int x tx :: vs.drop r.toNat := by
    unfold kl_ins
    dsimp only
    rw [if_neg (by omega)]
    rw [show min r.toNat vs.length = r.toNat by omega]
  have hints : IntsAre (vs.take r.toNat ++ .int x tx :: vs.drop r.toNat) (as.take r.toNat ++ x :: as.drop r.toNat) := by
    exact IntsAre.append (ints_take hvs _) (.cons x tx (ints_drop hvs _))
  with_unfolding_all refine' kl_insert F6 N6 ?fits hins (Upd.head hla) ?size ?nx
  case fits => (unfold Builtin.List.listFitsIndex; simp only [Bool.and_eq_true, decide_eq_true_eq]; omega)
  case size => (rw [PySem.sizeLine_eq]; simp only [List.toList_toArray]; omega)
  intro h7 F7 N7
  clear F6 N6
  k_steps
  rename Fr _ _ _ _ => F8
  rename News _ _ _ _ => N8
  exact hret _ _ _ _ hints F8 N8
theorem insL (w : World) (p : Program) (loose : List Str) (mean : ExcName → Option Value) (mg mb : Str → Option Value)
    (dp un : Nat) (gd : Option (List Code)) (cn : Str) (cs : Scope) (a : Addr) (ccd : Value) (cl : List (Str × Addr)) (outer : List Env) (A₀ : Around) (base h₀ : Heap) (L : Addr) (m : Str → Option Value) (s : Shared) (Q E : Value → Shared → Prop)
    (rest : List (Addr × Obj)) (la lam : Addr) (vs : List Value) (as : List Int) (nn : Nat) (x : Int) (tx : Tok) (hvs : IntsAre vs as) (hlen : as.length ≤ 16) (hla : ∀ q ∈ rest, q.1 ≠ la)
    (core : List (Addr × Obj)) (hcore : ∀ q ∈ core, q ∈ rest) (dom : Int → Prop) (hdom : ∀ i ∈ as, dom i) (hx : dom x) (kv : Int → Value → Prop) (fd : FuncData) (oc : Value) (od : Option Addr) (sl : Array (Option Value)) (hfn : (lam, (⟨oc, od, .func fd, sl⟩ : Obj)) ∈ rest) (hkey : KeyC w p loose mean mg mb lam core dom kv)
    (lt : Int → Int → Bool) (hcmp : ∀ i j u v, dom i → dom j → kv i u → kv j v → ∀ A Q E s, Q (.bool (lt i j)) s → wpAny (model prog w) A (compareOp .Lt u v) Q E s)
    (r : Int) (hpart : ∀ j (h : j < as.length), lt as[j] x = decide ((j : Int) < r)) (h0r : 0 ≤ r) (hrn : r ≤ as.length)
    (B : Below A₀ base outer h₀) (F : Fr h₀ L s.heap m) (X : (hd.heap_39 w.params).In h₀) (N : News h₀ L s.heap ((la, listOf vs.toArray nn) :: rest)) (T : Top p loose mean mg mb h₀) (hk : cs.kind = .function)
    (hdp : dp + 6 < recursionLimit) (hu : un + 60 < cLine)
    (hret : ∀ vs' n' h' tk', IntsAre vs' (as.take r.toNat ++ x :: as.drop r.toNat) → Fr h₀ L h' m → News h₀ L h' ((la, listOf vs'.toArray n') :: rest) → Q .none { s with heap := h', toks := tk' }) :
    wpAny (model prog w) (ktrTop dp un gd cn cs L a ccd cl outer) (call (.ref 48) [.ref la, .int x tx] [("key", .ref lam)]) Q E s := by
  refine wpAny_call ?_
  k_dflt (walk_at "MyEnter")
  k_steps
  refine Stop.go ?_
  rename Fr _ _ _ _ => F1
  rename News _ _ _ _ => N1
  with_unfolding_all refine' callWith_F (FnAt.of N1 (List.mem_cons_of_mem _ hfn)) ?_
  k_steps
  · exact FnAt.of N1 (List.mem_cons_of_mem _ hfn)
  refine Stop.go ?_
  with_unfolding_all refine' hkey _ _ hx _ _ _ _ _ _ _ _ _ _ _ _ _ _ _ _ _ _ ?B F1 ?X N1 ?T rfl (fun q hq => List.mem_cons_of_mem _ (hcore q hq)) ?d ?u ?ret
  case B => k_asm
  case X => k_asm
  case T => k_asm
  case d => ktr_room
  case u => ktr_units
  intro v h4 tk4 hkv F4 N4
  clear F1 N1
  k_steps
  refine Stop.go ?_
  with_unfolding_all refine' bisL4 w p loose mean mg mb _ _ _ _ _ _ _ _ _ _ _ _ _ _ _ _ _ rest la lam vs as nn v _ hvs hlen core hcore dom hdom kv fd oc od sl hfn hkey (fun j => lt j x) (fun j u hj hu => hcmp j x u v hj hx hu hkv) r hpart h0r hrn ?B2 F4 ?X2 N4 ?T2 rfl ?d2 ?u2 ?ret2
  case B2 => k_asm
  case X2 => k_asm
  case T2 => k_asm
  case d2 => ktr_room
  case u2 => ktr_units
  intro t h5 tk5 F5 N5
  clear F4 N4
  k_steps
  rename Fr _ _ _ _ => F6
  rename News _ _ _ _ => N6
  have hl := hvs.length
  have hins : kl_ins vs.toArray.toList r (.int x tx) = vs.take r.toNat ++ .int x tx :: vs.drop r.toNat := by
    unfold kl_ins
    dsimp only
    rw [if_neg (by omega)]
    rw [show min r.toNat vs.length = r.toNat by omega]
  have hints : IntsAre (vs.take r.toNat ++ .int x tx :: vs.drop r.toNat) (as.take r.toNat ++ x :: as.drop r.toNat) := by
    exact IntsAre.append (ints_take hvs _) (.cons x tx (ints_drop hvs _))
  with_unfolding_all refine' kl_insert F6 N6 ?fits hins (Upd.head hla) ?size ?nx
  case fits => (unfold Builtin.List.listFitsIndex; simp only [Bool.and_eq_true, decide_eq_true_eq]; omega)
  case size => (rw [PySem.sizeLine_eq]; simp only [List.toList_toArray]; omega)
  intro h7 F7 N7
  clear F6 N6
  k_steps
  rename Fr _ _ _ _ => F8
  rename News _ _ _ _ => N8
  exact hret _ _ _ _ hints F8 N8
end
theorem key_item {prog : Program} {w : World} {A : Around} {E : Value → Shared → Prop} {s : Shared} {value slice : PySem.Expr} {l : Addr} {vs : List Value} {nn : Nat} {k : Int} {u : Tok} {v : Value} {Q : Value → Shared → Prop}
    (ho : s.heap.get? l = some (listOf vs.toArray nn)) (h0 : 0 ≤ k) (hhi : k < 2 ^ 63) (hx : vs[k.toNat]? = some v) (h : Q v s)
    (hs : subscripted slice false (.ref l) (.int k u) = operate [.ref l, .int k u] (getItem (.ref l) (.int k u))) :
    wpAny (model prog w) A (subscriptTail value slice (.ref l) (.int k u)) Q E s :=
  have hl : s.heap.IsList l vs.toArray := ⟨_, ho, rfl, _, rfl⟩
  tail_any hl.typeIs PySem.F.slot_list_getitem.lookup (wpAny_getItem_list hl h0 hhi (by simpa using hx) h) hs

theorem key_readings (w : World) (p : Program) (loose : List Str) (mean : ExcName → Option Value) (mg mb : Str → Option Value)
    (name qual : Str) (p1 p2 p3 ap : Pos) (mr : List (Str × Const)) (lam cell c' lst : Addr) (oC oc : Obj) (pm ctv : Value) (cvs : Array Value) (ct : Tok) (vs : List Value) (nn : Nat)
    (hC : oC.data = .cell (some (.ref lst))) (hoc : oc.data = .fields cvs) (hcv : cvs[1]? = some (.str qual ct)) (hlen : vs.length ≤ 16) :
    KeyC w p loose mean mg mb lam [(lam, kla_obj name qual { posonlyargs := [], args := [{ arg := "one", annotation := none, pos := ap }], vararg := none, kwonlyargs := [], kw_defaults := [], kwarg := none, defaults := [] } (.Subscript (.Name "readings" p1) (.Name "one" p2) p3) { kind := .function, names := [(Str.ofString "one", .local), (Str.ofString "readings", .free)], isGenerator := false, isCoroutine := false, more := mr } [(Str.ofString "readings", cell)] pm c' ctv), (cell, oC), (c', oc), (lst, listOf vs.toArray nn)]
      (fun i => 0 ≤ i ∧ i < vs.length) (fun i v => vs[i.toNat]? = some v) := by
  intro i ti hdom dp un gd cn cs a ccd cl outer A₀ base h₀ L m s Q E news B F X N T hk hcore hdp hu hret
  have hm1 := hcore _ (List.mem_cons_self ..)
  have hm2 := hcore _ (List.mem_cons_of_mem _ (List.mem_cons_self ..))
  have hm3 := hcore _ (List.mem_cons_of_mem _ (List.mem_cons_of_mem _ (List.mem_cons_self ..)))
  have hm4 := hcore _ (List.mem_cons_of_mem _ (List.mem_cons_of_mem _ (List.mem_cons_of_mem _ (List.mem_cons_self ..))))
  refine wpAny_call ?_
  refine kla_code B F X N T rfl rfl hk hm1 (codeRec_news N hm3 hoc hcv) (by ktr_room) rfl (locs rfl) ?_ rfl rfl rfl (by dsimp only; decide)
  intro g L' h₁ FG F' N' B' X' T'
  refine Subscript_ ?_
  refine nameX_F N' (by rfl) hm2 hC ?_ rfl rfl
  refine nameX_L F' (by rfl) ?_ rfl rfl
  obtain ⟨h0, h1⟩ := hdom
  have hx : vs[i.toNat]? = some vs[i.toNat] := by simp
  refine key_item (u := ti) (N'.get hm4) h0 (by omega) hx ?_ (by with_unfolding_all rfl)
  refine leaveK_ F' N' ?_
  intro F9 N9
  exact hret _ _ _ hx F9 N9

theorem key_hues (w : World) (p : Program) (loose : List Str) (mean : ExcName → Option Value) (mg mb : Str → Option Value)
    (name qual : Str) (p1 p2 p3 ap : Pos) (mr : List (Str × Const)) (lam cell c' lst : Addr) (oC oc : Obj) (pm ctv : Value) (cvs : Array Value) (ct : Tok) (vs : List Value) (nn : Nat)
    (hC : oC.data = .cell (some (.ref lst))) (hoc : oc.data = .fields cvs) (hcv : cvs[1]? = some (.str qual ct)) (hlen : vs.length ≤ 16) :
    KeyC w p loose mean mg mb lam [(lam, kla_obj name qual { posonlyargs := [], args := [{ arg := "one", annotation := none, pos := ap }], vararg := none, kwonlyargs := [], kw_defaults := [], kwarg := none, defaults := [] } (.Subscript (.Name "hues" p1) (.Name "one" p2) p3) { kind := .function, names := [(Str.ofString "one", .local), (Str.ofString "hues", .free)], isGenerator := false, isCoroutine := false, more := mr } [(Str.ofString "hues", cell)] pm c' ctv), (cell, oC), (c', oc), (lst, listOf vs.toArray nn)]
      (fun i => 0 ≤ i ∧ i < vs.length) (fun i v => vs[i.toNat]? = some v) := by
  intro i ti hdom dp un gd cn cs a ccd cl outer A₀ base h₀ L m s Q E news B F X N T hk hcore hdp hu hret
  have hm1 := hcore _ (List.mem_cons_self ..)
  have hm2 := hcore _ (List.mem_cons_of_mem _ (List.mem_cons_self ..))
  have hm3 := hcore _ (List.mem_cons_of_mem _ (List.mem_cons_of_mem _ (List.mem_cons_self ..)))
  have hm4 := hcore _ (List.mem_cons_of_mem _ (List.mem_cons_of_mem _ (List.mem_cons_of_mem _ (List.mem_cons_self ..))))
  refine wpAny_call ?_
  refine kla_code B F X N T rfl rfl hk hm1 (codeRec_news N hm3 hoc hcv) (by ktr_room) rfl (locs rfl) ?_ rfl rfl rfl (by dsimp only; decide)
  intro g L' h₁ FG F' N' B' X' T'
  refine Subscript_ ?_
  refine nameX_F N' (by rfl) hm2 hC ?_ rfl rfl
  refine nameX_L F' (by rfl) ?_ rfl rfl
  obtain ⟨h0, h1⟩ := hdom
  have hx : vs[i.toNat]? = some vs[i.toNat] := by simp
  refine key_item (u := ti) (N'.get hm4) h0 (by omega) hx ?_ (by with_unfolding_all rfl)
  refine leaveK_ F' N' ?_
  intro F9 N9
  exact hret _ _ _ hx F9 N9

theorem key_places (w : World) (p : Program) (loose : List Str) (mean : ExcName → Option Value) (mg mb : Str → Option Value)
    (name qual : Str) (p1 p2 p3 ap : Pos) (mr : List (Str × Const)) (lam cell c' lst : Addr) (oC oc : Obj) (pm ctv : Value) (cvs : Array Value) (ct : Tok) (vs : List Value) (nn : Nat)
    (hC : oC.data = .cell (some (.ref lst))) (hoc : oc.data = .fields cvs) (hcv : cvs[1]? = some (.str qual ct)) (hlen : vs.length ≤ 16) :
    KeyC w p loose mean mg mb lam [(lam, kla_obj name qual { posonlyargs := [], args := [{ arg := "one", annotation := none, pos := ap }], vararg := none, kwonlyargs := [], kw_defaults := [], kwarg := none, defaults := [] } (.Subscript (.Name "places" p1) (.Name "one" p2) p3) { kind := .function, names := [(Str.ofString "one", .local), (Str.ofString "places", .free)], isGenerator := false, isCoroutine := false, more := mr } [(Str.ofString "places", cell)] pm c' ctv), (cell, oC), (c', oc), (lst, listOf vs.toArray nn)]
      (fun i => 0 ≤ i ∧ i < vs.length) (fun i v => vs[i.toNat]? = some v) := by
  intro i ti hdom dp un gd cn cs a ccd cl outer A₀ base h₀ L m s Q E news B F X N T hk hcore hdp hu hret
  have hm1 := hcore _ (List.mem_cons_self ..)
  have hm2 := hcore _ (List.mem_cons_of_mem _ (List.mem_cons_self ..))
  have hm3 := hcore _ (List.mem_cons_of_mem _ (List.mem_cons_of_mem _ (List.mem_cons_self ..)))
  have hm4 := hcore _ (List.mem_cons_of_mem _ (List.mem_cons_of_mem _ (List.mem_cons_of_mem _ (List.mem_cons_self ..))))
  refine wpAny_call ?_
  refine kla_code B F X N T rfl rfl hk hm1 (codeRec_news N hm3 hoc hcv) (by ktr_room) rfl (locs rfl) ?_ rfl rfl rfl (by dsimp only; decide)
  intro g L' h₁ FG F' N' B' X' T'
  refine Subscript_ ?_
  refine nameX_F N' (by rfl) hm2 hC ?_ rfl rfl
  refine nameX_L F' (by rfl) ?_ rfl rfl
  obtain ⟨h0, h1⟩ := hdom
  have hx : vs[i.toNat]? = some vs[i.toNat] := by simp
  refine key_item (u := ti) (N'.get hm4) h0 (by omega) hx ?_ (by with_unfolding_all rfl)
  refine leaveK_ F' N' ?_
  intro F9 N9
  exact hret _ _ _ hx F9 N9
def euc : Nat → Int → Int → List Str → Int × List Str
  | 0, _, s, ps => (s, ps)
  | n + 1, r, s, ps => if r = s then (s, ps) else if r < s then euc n r (s - r) ("a" :: "ab" :: ps) else euc n (r - s) s ("b" :: "ab" :: ps)
section
local macro_rules | `(tactic| walk_at "KswEnd") => `(tactic| refine Stop.intro ?_)
local macro_rules | `(tactic| walk_at "binaryOp Add ref ref") => `(tactic| refine Stop.intro ?_)
local macro_rules | `(tactic| walk_at "exec While Compare cons nil") => `(tactic| refine Stop.intro ?_)

theorem eucC (w : World) (p : Program) (loose : List Str) (mean : ExcName → Option Value) (mg mb : Str → Option Value)
    (dp un : Nat) (gd : Option (List Code)) (cn : Str) (cs : Scope) (a : Addr) (ccd : Value) (cl : List (Str × Addr)) (outer : List Env) (A₀ : Around) (base h₀ : Heap) (L : Addr) (m : Str → Option Value) (s : Shared) (Q E : Value → Shared → Prop)
    (news : List (Addr × Obj)) (r0 s0 : Int) (t1 t2 : Tok) (hr0 : 0 < r0) (hs0 : 0 < s0) (hrs : r0 + s0 ≤ 16)
    (B : Below A₀ base outer h₀) (F : Fr h₀ L s.heap m) (X : (hd.heap_39 w.params).In h₀) (N : News h₀ L s.heap news) (T : Top p loose mean mg mb h₀) (hk : cs.kind = .function)
    (hdp : dp + 4 < recursionLimit) (hu : un + 40 < cLine)
    (hret : ∀ tp pl pvs nn tk h' tk', StrsAre pvs (euc 16 r0 s0 []).2 → Fr h₀ L h' m → News h₀ L h' ((tp, { cls := .type "tuple", data := .seq #[.int (euc 16 r0 s0 []).1 tk, .ref pl] }) :: (pl, listOf pvs.toArray nn) :: news) → (∀ q ∈ news, q.1 < pl) → pl < tp → Q (.ref tp) { s with heap := h', toks := tk' }) :
    wpAny (model prog w) (ktrTop dp un gd cn cs L a ccd cl outer) (call (.ref 78) [.int r0 t1, .int s0 t2] []) Q E s := by
  refine wpAny_call ?_
  k_dflt (walk_at "MyEnter")
  k_steps
  refine Stop.go ?_
  rename Fr _ _ _ _ => F1
  rename News _ _ _ _ => N1
  rename ∀ p ∈ news, p.1 < _ => l1
  with_unfolding_all refine' ksw_while (σ := (Int × Tok) × (Int × Tok) × (Addr × List Value × Nat × List Str)) (fun c => (c.2.2.1, listOf c.2.2.2.1.toArray c.2.2.2.2.1) :: news) (fun c => [("rest", .int c.1.1 c.1.2), ("step", .int c.2.1.1 c.2.1.2), ("pairs", .ref c.2.2.1)]) (fun c => StrsAre c.2.2.2.1 c.2.2.2.2.2 ∧ ∀ q ∈ news, q.1 < c.2.2.1) [] (fun c => 0 < c.1.1 ∧ 0 < c.2.1.1 ∧ c.2.2.2.1.length + 2 * (c.1.1 + c.2.1.1) ≤ 100 ∧ ∃ n : Nat, c.1.1 + c.2.1.1 ≤ n ∧ euc n c.1.1 c.2.1.1 c.2.2.2.2.2 = euc 16 r0 s0 []) (fun c => (c.1.1 + c.2.1.1).toNat) ((r0, _), (s0, _), (_, [], 0, [])) F1 N1 ?hf ?hk1 ?hp ?turn
  case hf => exact ⟨StrsAre.nil, l1⟩
  case hk1 =>
    refine List.forall_mem_cons.mpr ⟨?_, List.forall_mem_cons.mpr ⟨?_, List.forall_mem_cons.mpr ⟨?_, List.forall_mem_nil _⟩⟩⟩
    · with_unfolding_all rfl
    · with_unfolding_all rfl
    · with_unfolding_all rfl
  case hp => exact ⟨hr0, hs0, by dsimp only; simp only [List.length_nil]; omega, 16, by dsimp only; omega, rfl⟩
  rintro ⟨⟨r, tr⟩, ⟨st, ts⟩, ⟨pa, pvs, nn, ps⟩⟩ u h2 tk2 ⟨hps, hpa⟩ hP F2 N2
  clear F1 N1
  dsimp only at hP F2 N2 hps hpa ⊢
  obtain ⟨hP1, hP2, hP3, n, hn, hP4⟩ := hP
  k_steps
  · refine Stop.go ?_
    rename Fr _ _ _ _ => F3
    rename News _ _ _ _ => N3
    with_unfolding_all refine' kmk_add_lit (zs := .str "a" _ :: .str "ab" _ :: pvs) F3 N3 ⟨_, (N3 _ (List.mem_cons_self ..)).1, rfl, _, rfl⟩ ⟨_, (N3 _ (List.mem_cons_of_mem _ (List.mem_cons_self ..))).1, rfl, _, rfl⟩ ?e ?nx ?sz
    case e => rfl
    case sz => (rw [PySem.sizeLine_eq]; simp only [List.length_cons, List.length_nil]; omega)
    intro D h4 F4 N4 l4
    clear F3 N3
    k_steps
    refine Stop.go ?_
    rename Fr _ _ _ _ => F5
    rename News _ _ _ _ => N5
    with_unfolding_all refine' ksw_end ((r, _), (st - r, _), (D, .str "a" _ :: .str "ab" _ :: pvs, 0, "a" :: "ab" :: ps)) F5 N5 ?hn ?hf ?hk ?hr ?hp ?hm
    case hn =>
      intro q hq
      rcases List.mem_cons.mp hq with rfl | hq
      · exact List.mem_cons_self ..
      · exact List.mem_cons_of_mem _ (List.mem_cons_of_mem _ (List.mem_cons_of_mem _ hq))
    case hf => exact ⟨.cons _ _ (.cons _ _ hps), fun q hq => l4 q (List.mem_cons_of_mem _ (List.mem_cons_of_mem _ hq))⟩
    case hk => exact List.forall_mem_cons.mpr ⟨by with_unfolding_all rfl, List.forall_mem_cons.mpr ⟨by with_unfolding_all rfl, List.forall_mem_cons.mpr ⟨by with_unfolding_all rfl, List.forall_mem_nil _⟩⟩⟩
    case hr =>
      intro z hz1 hz2
      have e1 : z ≠ "rest" := hz1 _ (List.mem_cons_self ..)
      have e2 : z ≠ "step" := hz1 _ (List.mem_cons_of_mem _ (List.mem_cons_self ..))
      have e3 : z ≠ "pairs" := hz1 _ (List.mem_cons_of_mem _ (List.mem_cons_of_mem _ (List.mem_cons_self ..)))
      simp only [kstB, if_neg e1, if_neg e2, if_neg e3, hz2, Bool.false_eq_true, if_false]
    case hp =>
      obtain ⟨n', rfl⟩ : ∃ n', n = n' + 1 := ⟨n - 1, by omega⟩
      refine ⟨by dsimp only; omega, by dsimp only; omega, by simp only [List.length_cons]; omega, n', by dsimp only; omega, ?_⟩
      rw [← hP4]
      simp only [euc]; rw [if_neg (by omega), if_pos (by omega)]
    case hm => dsimp only; omega
  · refine Stop.go ?_
    rename Fr _ _ _ _ => F3
    rename News _ _ _ _ => N3
    with_unfolding_all refine' kmk_add_lit (zs := .str "b" _ :: .str "ab" _ :: pvs) F3 N3 ⟨_, (N3 _ (List.mem_cons_self ..)).1, rfl, _, rfl⟩ ⟨_, (N3 _ (List.mem_cons_of_mem _ (List.mem_cons_self ..))).1, rfl, _, rfl⟩ ?e_b ?nx_b ?sz_b
    case e_b => rfl
    case sz_b => (rw [PySem.sizeLine_eq]; simp only [List.length_cons, List.length_nil]; omega)
    intro D h4 F4 N4 l4
    clear F3 N3
    k_steps
    refine Stop.go ?_
    rename Fr _ _ _ _ => F5
    rename News _ _ _ _ => N5
    with_unfolding_all refine' ksw_end ((r - st, _), (st, _), (D, .str "b" _ :: .str "ab" _ :: pvs, 0, "b" :: "ab" :: ps)) F5 N5 ?hn_b ?hf_b ?hk_b ?hr_b ?hp_b ?hm_b
    case hn_b =>
      intro q hq
      rcases List.mem_cons.mp hq with rfl | hq
      · exact List.mem_cons_self ..
      · exact List.mem_cons_of_mem _ (List.mem_cons_of_mem _ (List.mem_cons_of_mem _ hq))
    case hf_b => exact ⟨.cons _ _ (.cons _ _ hps), fun q hq => l4 q (List.mem_cons_of_mem _ (List.mem_cons_of_mem _ hq))⟩
    case hk_b => exact List.forall_mem_cons.mpr ⟨by with_unfolding_all rfl, List.forall_mem_cons.mpr ⟨by with_unfolding_all rfl, List.forall_mem_cons.mpr ⟨by with_unfolding_all rfl, List.forall_mem_nil _⟩⟩⟩
    case hr_b =>
      intro z hz1 hz2
      have e1 : z ≠ "rest" := hz1 _ (List.mem_cons_self ..)
      have e2 : z ≠ "step" := hz1 _ (List.mem_cons_of_mem _ (List.mem_cons_self ..))
      have e3 : z ≠ "pairs" := hz1 _ (List.mem_cons_of_mem _ (List.mem_cons_of_mem _ (List.mem_cons_self ..)))
      simp only [kstB, if_neg e1, if_neg e2, if_neg e3, hz2, Bool.false_eq_true, if_false]
    case hp_b =>
      obtain ⟨n', rfl⟩ : ∃ n', n = n' + 1 := ⟨n - 1, by omega⟩
      refine ⟨by dsimp only; omega, by dsimp only; omega, by simp only [List.length_cons]; omega, n', by dsimp only; omega, ?_⟩
      rw [← hP4]
      simp only [euc]; rw [if_neg (by omega), if_neg (by omega)]
    case hm_b => dsimp only; omega
  · rename Fr _ _ _ _ => F3
    rename News _ _ _ _ => N3
    rename _ ∧ _ => l3
    obtain ⟨n', rfl⟩ : ∃ n', n = n' + 1 := ⟨n - 1, by omega⟩
    have hR : (st, ps) = euc 16 r0 s0 [] := by
      rw [← hP4]
      simp only [euc]
      rw [if_pos (by omega)]
    rw [← hR] at hret
    exact hret _ _ _ _ _ _ _ hps F3 N3 hpa l3.1
end
theorem seqIx0 {n : Nat} (h : 0 < n) : seqIndex? 0 n = some 0 := by
  unfold seqIndex?
  simp [h]
theorem seqIx1 {n : Nat} (h : 1 < n) : seqIndex? 1 n = some 1 := by
  unfold seqIndex?
  simp
  omega
theorem iteT {c : Bool} {P Q : Prop} (hc : c = true) (h : P) : if c = true then P else Q := by rw [if_pos hc]; exact h
def repl : List Str → Str → Option Str
  | [], t => some t
  | [_], _ => none
  | a :: b :: r, t => if (a.length == 0) = false ∧ t.length ≤ 64 ∧ b.length ≤ 16 ∧ ((Txt.split t a).map (·.length)).sum + (Txt.split t a).length ≤ 1000 then repl r (Txt.join b (Txt.split t a)) else none
abbrev tupl (vs : List Value) : Obj := { cls := .type "tuple", data := .seq vs.toArray }
theorem peek_rest {K : Frag} {S : Setting} {fd : FuncData} {args : Args} {vs : List Value} (f : Value → List (Str × Value)) (hb : bindArgs fd args = newTuple vs >>= fun t => pure (f t)) (hsz : vs.length ≤ sizeLine) :
    peek1 K S (bindArgs fd args) = some (({ cls := .type "tuple", data := .seq vs.toArray } : Obj), fun D => some (f (.ref D))) := by
  rw [hb]
  unfold newTuple newObj
  simp only [List.size_toArray]
  rw [if_neg (by omega)]
  rfl
section
local macro_rules | `(tactic| walk_at "subscriptTail Name") => `(tactic| refine Stop.intro ?_)
local macro_rules | `(tactic| walk_at "subscriptTail Name Constant ref int") => `(tactic| refine Stop.intro ?_)
local macro_rules | `(tactic| walk_at "subscriptTail Name Slice ref ref") => `(tactic| refine Stop.intro ?_)
local macro_rules | `(tactic| walk_at "call builtin:str.split") => `(tactic| refine Stop.intro ?_)
local macro_rules | `(tactic| walk_at "call builtin:str.join") => `(tactic| refine Stop.intro ?_)
local macro_rules | `(tactic| walk_at "last truthy ref") => `(tactic| refine Stop.intro ?_)
local macro_rules | `(tactic| walk_at "KswEnd") => `(tactic| refine Stop.intro ?_)
local macro_rules | `(tactic| walk_at "exec While Name cons nil") => `(tactic| refine Stop.intro ?_)

theorem replC (w : World) (p : Program) (loose : List Str) (mean : ExcName → Option Value) (mg mb : Str → Option Value)
    (dp un : Nat) (gd : Option (List Code)) (cn : Str) (cs : Scope) (a : Addr) (ccd : Value) (cl : List (Str × Addr)) (outer : List Env) (A₀ : Around) (base h₀ : Heap) (L : Addr) (m : Str → Option Value) (s : Shared) (Q E : Value → Shared → Prop)
    (news : List (Addr × Obj)) (tx : Str) (ttx : Tok) (pvs : List Value) (ps : List Str) (hps : StrsAre pvs ps) (hlen : ps.length ≤ 64) (out : Str) (hout : repl ps tx = some out)
    (B : Below A₀ base outer h₀) (F : Fr h₀ L s.heap m) (X : (hd.heap_39 w.params).In h₀) (N : News h₀ L s.heap news) (T : Top p loose mean mg mb h₀) (hk : cs.kind = .function)
    (hdp : dp + 4 < recursionLimit) (hu : un + 40 < cLine)
    (hret : ∀ t h' tk', Fr h₀ L h' m → News h₀ L h' news → Q (.str out t) { s with heap := h', toks := tk' }) :
    wpAny (model prog w) (ktrTop dp un gd cn cs L a ccd cl outer) (call (.ref 21) (.str tx ttx :: pvs) []) Q E s := by
  refine wpAny_call ?_
  have hpl := hps.length
  k_dflt (refine' kp_rest (vs := pvs) ?k1 ?k2 ?k3 ?k4 ?k5 ?kA ?kF ?kK ?k6 ?k7 ?k8 ?kV ?kP ?kG ?kB ?_ ?c2 ?c3 ?c4 ?c5; (case kA => exact rfl); (case kF => exact rfl); (case kK => first | exact rfl | assumption); (case k1 => k_asm); (case k2 => k_asm); (case k3 => k_asm); (case k4 => k_asm); (case k5 => k_asm); (case k6 => k_is); (case k7 => k_is); (case k8 => ktr_room); (case kV => exact rfl); (case kP => exact peek_rest (fun t => [("text", .str tx ttx), ("pairs", t)]) (by cases pvs <;> rfl) (by rw [PySem.sizeLine_eq]; omega)); (case kG => exact fun _ => rfl); (case kB => exact fun _ => locs rfl); (case c5 => decide); (case c2 => exact rfl); (case c3 => exact rfl); (case c4 => exact rfl); k_whole; intro D' g' L' h' l1 FG' F' N' B' X' T'; (try dsimp only); (try k_lift B'); (try k_fold))
  k_steps
  refine Stop.go ?_
  rename Fr _ _ _ _ => F1
  rename News _ _ _ _ => N1
  rename ∀ p ∈ news, p.1 < _ => l1
  with_unfolding_all refine' ksw_while (σ := (Str × Tok) × (Addr × List Value × List Str)) (fun c => (c.2.1, tupl c.2.2.1) :: news) (fun c => [("text", .str c.1.1 c.1.2), ("pairs", .ref c.2.1)]) (fun c => StrsAre c.2.2.1 c.2.2.2 ∧ (∀ q ∈ news, q.1 < c.2.1)) [] (fun c => c.2.2.2.length ≤ 64 ∧ repl c.2.2.2 c.1.1 = some out) (fun c => c.2.2.2.length) ((tx, _), (_, pvs, ps)) F1 N1 ?hf ?hk1 ?hp ?turn
  case hf => exact ⟨hps, l1⟩
  case hk1 =>
    refine List.forall_mem_cons.mpr ⟨?_, List.forall_mem_cons.mpr ⟨?_, List.forall_mem_nil _⟩⟩
    · with_unfolding_all rfl
    · with_unfolding_all rfl
  case hp => exact ⟨hlen, hout⟩
  rintro ⟨⟨t, tt⟩, ⟨pa, us, qs⟩⟩ u h2 tk2 ⟨hqs, hpa⟩ ⟨hql, hP⟩ F2 N2
  clear F1 N1
  dsimp only at hP F2 N2 hqs hpa hql ⊢
  cases hqs with
  | nil =>
    k_steps
    rename Fr _ _ _ _ => F3
    rename News _ _ _ _ => N3
    simp only [repl, Option.some.injEq] at hP
    subst hP
    exact hret _ _ _ F3 (fun q hq => N3 q (List.mem_cons_of_mem _ hq))
  | cons a ta hr =>
    cases hr with
    | nil => exact absurd hP (by simp [repl])
    | @cons b tb vs2 ys2 hr =>
      have hul := hr.length
      simp only [repl] at hP
      split at hP
      · rename_i hc
        obtain ⟨hc1, hc2, hc3, hc4⟩ := hc
        k_steps
        refine Stop.go ?_
        refine ktl_truthy (N2 _ (List.mem_cons_self ..)).1 (by simp only [List.size_toArray, List.length_cons] at hql ⊢; omega) ?_
        refine iteT rfl ?_
        k_steps
        refine Stop.go ?_
        with_unfolding_all refine' item_tupleT (x := .str b tb) (j := 1) ⟨_, (N2 _ (List.mem_cons_self ..)).1, rfl, _, rfl⟩ (by decide) (by decide) ?j1 rfl ?_
        case j1 => exact seqIx1 (by simp only [List.length_cons]; omega)
        k_steps
        refine Stop.go ?_
        with_unfolding_all refine' item_tupleT (x := .str a ta) (j := 0) ⟨_, (N2 _ (List.mem_cons_self ..)).1, rfl, _, rfl⟩ (by decide) (by decide) ?j2 rfl ?_
        case j2 => exact seqIx0 (by simp only [List.length_cons]; omega)
        k_steps
        refine Stop.go ?_
        with_unfolding_all refine' KSpl.split1 F2 N2 hc1 ?_ ?sz1
        case sz1 => rw [PySem.sizeLine_eq]; omega
        intro D3 l3 h3 k3 hl3 hs3 F3 N3 o3
        clear F2 N2
        k_steps
        refine Stop.go ?_
        with_unfolding_all refine' join_listW ⟨_, (N3 _ (List.mem_cons_self ..)).1, rfl, _, rfl⟩ hs3 hc3 ?w3 ?_
        case w3 => rw [hl3]; omega
        intro t4 k4
        rw [hl3]
        k_steps
        refine Stop.go ?_
        rename Fr _ _ _ _ => F4
        rename News _ _ _ _ => N4
        with_unfolding_all refine' slice_tuple_from (s := ⟨_, s.gens, s.drawn, _, s.os⟩) (a := 2) F4 N4 ⟨_, (N4 _ (List.mem_cons_of_mem _ (List.mem_cons_self ..))).1, rfl, _, rfl⟩ (by decide) ?ha5 ?nx5 ?hs5 ?hg5 ?hz5
        case ha5 => simp only [List.size_toArray, List.length_cons]; omega
        case hs5 => with_unfolding_all rfl
        case hg5 => (intro _; with_unfolding_all rfl)
        case hz5 => (simp only [List.length_cons] at hql; rw [PySem.sizeLine_eq]; simp only [List.size_toArray, List.length_cons]; omega)
        intro h5 F5 N5
        have l6 : ∀ q ∈ news, q.1 < _ := fun q hq => Nat.lt_succ_of_lt (Heap.lt_size (N4 q (List.mem_cons_of_mem _ (List.mem_cons_of_mem _ hq))).1)
        clear F4 N4
        k_steps
        refine Stop.go ?_
        rename Fr _ _ _ _ => F6
        rename News _ _ _ _ => N6
        with_unfolding_all refine' ksw_end ((Txt.join b (Txt.split t a), _), (_, vs2, ys2)) F6 N6 ?hn ?hf6 ?hk ?hr6 ?hp6 ?hm
        case hk => exact List.forall_mem_cons.mpr ⟨by with_unfolding_all rfl, List.forall_mem_cons.mpr ⟨by with_unfolding_all rfl, List.forall_mem_nil _⟩⟩
        case hf6 => exact ⟨hr, l6⟩
        case hn =>
          intro q hq
          rcases List.mem_cons.mp hq with rfl | hq
          · exact List.mem_cons_self ..
          · exact List.mem_cons_of_mem _ (List.mem_cons_of_mem _ (List.mem_cons_of_mem _ hq))
        case hr6 =>
          intro z hz1 hz2
          have e1 : z ≠ "text" := hz1 _ (List.mem_cons_self ..)
          have e2 : z ≠ "pairs" := hz1 _ (List.mem_cons_of_mem _ (List.mem_cons_self ..))
          simp only [kstB, if_neg e1, if_neg e2, hz2, Bool.false_eq_true, if_false]
        case hp6 => exact ⟨by simp only [List.length_cons] at hql; dsimp only; omega, hP⟩
        case hm => dsimp only; simp only [List.length_cons]; omega
      · cases hP
end
def hI (h : UInt64) : Int := Flt.toInt Float64.truncOf (Float64.mul h 4618441417868443648)
def hF (h : UInt64) : UInt64 := Float64.sub (Float64.mul h 4618441417868443648) (Float64.ofInt (hI h))
def hP (s v : UInt64) : UInt64 := Float64.mul v (Float64.sub 4607182418800017408 s)
def hQ (h s v : UInt64) : UInt64 := Float64.mul v (Float64.sub 4607182418800017408 (Float64.mul s (hF h)))
def hT (h s v : UInt64) : UInt64 := Float64.mul v (Float64.sub 4607182418800017408 (Float64.mul s (Float64.sub 4607182418800017408 (hF h))))
/-- what hsv_to_rgb hands back where s is not 0 -/
def hsvP (h s v : UInt64) : UInt64 × UInt64 × UInt64 :=
  if (hI h).fmod 6 = 0 then (v, hT h s v, hP s v) else if (hI h).fmod 6 = 1 then (hQ h s v, v, hP s v) else if (hI h).fmod 6 = 2 then (hP s v, v, hT h s v)
  else if (hI h).fmod 6 = 3 then (hP s v, hQ h s v, v) else if (hI h).fmod 6 = 4 then (hT h s v, hP s v, v) else (v, hP s v, hQ h s v)
section
local macro_rules | `(tactic| walk_at "execs nil") => `(tactic| first | (refine gen_toks _ ?_; intro tkp; refine wpAny_execs_nil ?_) | refine wpAny_execs_nil ?_)
local macro_rules | `(tactic| walk_at "execs cons") => `(tactic| ((first | (refine gen_toks _ ?_; intro tkp; refine wpAny_execs_cons ?_) | refine wpAny_execs_cons ?_); try dsimp only))
theorem hsvC (w : World) (p : Program) (loose : List Str) (mean : ExcName → Option Value) (mg mb : Str → Option Value)
    (dp un : Nat) (gd : Option (List Code)) (cn : Str) (cs : Scope) (a : Addr) (ccd : Value) (cl : List (Str × Addr)) (outer : List Env) (A₀ : Around) (base h₀ : Heap) (L : Addr) (m : Str → Option Value) (s : Shared) (Q E : Value → Shared → Prop)
    (news : List (Addr × Obj)) (hh ss vv : UInt64) (t1 t2 t3 : Tok)
    (hz : (Float64.cmp ss 0 == some Ordering.eq) = false) (hn : Float64.isNaN (Float64.mul hh 4618441417868443648) = false) (hi : Float64.isInf (Float64.mul hh 4618441417868443648) = false) (hs : 0 ≤ hI hh ∧ hI hh < 100) (ht3 : t3 ≠ 0)
    (B : Below A₀ base outer h₀) (F : Fr h₀ L s.heap m) (X : (hd.heap_39 w.params).In h₀) (N : News h₀ L s.heap news) (T : Top p loose mean mg mb h₀) (hk : cs.kind = .function)
    (hdp : dp + 4 < recursionLimit) (hu : un + 40 < cLine)
    (hret : ∀ D r g b t1 t2 t3 h' tk', hsvP hh ss vv = (r, g, b) → t1 ≠ 0 ∧ t2 ≠ 0 ∧ t3 ≠ 0 → Fr h₀ L h' m → News h₀ L h' ((D, { cls := .type "tuple", data := .seq #[.float r t1, .float g t2, .float b t3] }) :: news) → (∀ q ∈ news, q.1 < D) → Q (.ref D) { s with heap := h', toks := tk' }) :
    wpAny (model prog w) (ktrTop dp un gd cn cs L a ccd cl outer) (call (.ref 71) [.float hh t1, .float ss t2, .float vv t3] []) Q E s := by
  have hs1 : (Flt.toInt Float64.truncOf (Float64.mul hh 4618441417868443648)).natAbs < 2 ^ 1024 - 2 ^ 970 := by
    have h9 : (Flt.toInt Float64.truncOf (Float64.mul hh 4618441417868443648)).natAbs < 100 := by unfold hI at hs; omega
    exact Nat.lt_trans h9 (by decide +kernel)
  have hs2 := hs
  unfold hI at hs2
  refine wpAny_call ?_
  k_dflt (walk_at "MyEnter")
  k_steps
  all_goals (rename Fr _ _ _ _ => F9; rename News _ _ _ _ => N9)
  all_goals first
    | (rename ∀ p ∈ news, p.1 < _ => l9
       refine hret _ _ _ _ _ _ _ _ _ ?_ (by refine ⟨?_, ?_, ?_⟩ <;> first | assumption | exact Nat.succ_ne_zero _) F9 N9 l9
       unfold hsvP hI
       (repeat' split) <;> first | rfl | (exfalso; omega))
    | (exfalso
       have g1 := Int.fmod_nonneg_of_pos (a := Flt.toInt Float64.truncOf (Float64.mul hh 4618441417868443648)) (b := 6) (by decide)
       have g2 := Int.fmod_lt_of_pos (Flt.toInt Float64.truncOf (Float64.mul hh 4618441417868443648)) (b := 6) (by decide)
       omega)
end
def flt (x y : UInt64) : Bool := Float64.cmp x y == some .lt
def fmax3 (x y z : UInt64) : UInt64 := if flt x y then (if flt y z then z else y) else (if flt x z then z else x)
def fmin3 (x y z : UInt64) : UInt64 := if flt y x then (if flt z y then z else y) else (if flt z x then z else x)
theorem max3_ff {prog : Program} {w : World} {A : Around} {E : Value → Shared → Prop} {s : Shared} {Q : Value → Shared → Prop} {x y z : UInt64} {t u v : Tok} {h₀ : Heap} {L : Addr} {m : Str → Option Value} {news : List (Addr × Obj)}
    (hh : A.handled = none) (F : Fr h₀ L s.heap m) (N : News h₀ L s.heap news)
    (h : ∀ h' tk q, (q = t ∨ q = u ∨ q = v) → Fr h₀ L h' m → News h₀ L h' news → Q (.float (fmax3 x y z) q) { s with heap := h', toks := tk }) :
    wpAny (model prog w) A (call (.builtin "max") [.float x t, .float y u, .float z v]) Q E s := by
  have hT : (s.heap.push { cls := .type "tuple", data := .seq #[.float x t, .float y u, .float z v] }).IsTuple s.heap.objs.size #[.float x t, .float y u, .float z v] := ⟨_, Heap.get?_push_size _ rfl, rfl, 0, rfl⟩
  refine call_max_three (wpAny_pyIter_tuple hT ?_)
  have hsz : (s.heap.push { cls := .type "tuple", data := .seq #[.float x t, .float y u, .float z v] }).objs.size = s.heap.objs.size + 1 := Heap.size_push ..
  refine ⟨_, [_, s.heap.objs.size], [_], _, _, _, _, rfl, Walks.tuple (A := A.in1) hh _ s.heap.objs.size (by rw [hsz]; exact Nat.ne_of_lt (Nat.lt_succ_self _)) #[.float x t, .float y u, .float z v],
    ⟨⟨_, Heap.get?_push_size _ rfl, rfl, rfl⟩, hT.push _⟩, fun c hc => ?_, by simp, Flt.cmpOf_gt #[.float x t, .float y u, .float z v] ?_, fun r h' tk hP hk => ?_⟩
  · show c < ((s.heap.push _).push _).objs.size
    rw [Heap.size_push, hsz]
    rcases List.mem_cons.mp hc with rfl | hc
    · rw [hsz]; exact Nat.lt_succ_self _
    · rcases List.mem_cons.mp hc with rfl | hc
      · exact Nat.lt_succ_of_lt (Nat.lt_succ_self _)
      · cases hc
  · intro q hq
    simp only [List.mem_toArray, List.mem_cons, List.not_mem_nil, or_false] at hq
    rcases hq with rfl | rfl | rfl
    · exact .float _ _
    · exact .float _ _
    · exact .float _ _
  · have hold : ∀ c o, s.heap.get? c = some o → h'.get? c = some o := fun c o e => by
      refine hk c o (fun hm => ?_) (Heap.get?_push_of_some _ (Heap.get?_push_of_some _ e))
      rcases List.mem_cons.mp hm with e1 | hm
      · have := Heap.lt_size e; rw [e1, hsz] at this; exact Nat.lt_irrefl _ (Nat.lt_of_succ_lt this)
      · cases hm
    obtain ⟨q, hq, hv⟩ : ∃ q, (q = t ∨ q = u ∨ q = v) ∧ r = .float (fmax3 x y z) q := by
      have e1 : Flt.ltV (.float x t) (.float y u) = flt x y := rfl
      have e2 : Flt.ltV (.float x t) (.float z v) = flt x z := rfl
      have e3 : Flt.ltV (.float y u) (.float z v) = flt y z := rfl
      cases c1 : flt x y <;> cases c2 : flt x z <;> cases c3 : flt y z <;> simp [argBest, e1, e2, e3, c1, c2, c3] at hP <;> subst hP <;> simp [fmax3, c1, c2, c3]
    rw [hv]
    exact h h' tk q hq (F.grownK hold) (N.grown hold)
theorem min3_ff {prog : Program} {w : World} {A : Around} {E : Value → Shared → Prop} {s : Shared} {Q : Value → Shared → Prop} {x y z : UInt64} {t u v : Tok} {h₀ : Heap} {L : Addr} {m : Str → Option Value} {news : List (Addr × Obj)}
    (hh : A.handled = none) (F : Fr h₀ L s.heap m) (N : News h₀ L s.heap news)
    (h : ∀ h' tk q, (q = t ∨ q = u ∨ q = v) → Fr h₀ L h' m → News h₀ L h' news → Q (.float (fmin3 x y z) q) { s with heap := h', toks := tk }) :
    wpAny (model prog w) A (call (.builtin "min") [.float x t, .float y u, .float z v]) Q E s := by
  have hT : (s.heap.push { cls := .type "tuple", data := .seq #[.float x t, .float y u, .float z v] }).IsTuple s.heap.objs.size #[.float x t, .float y u, .float z v] := ⟨_, Heap.get?_push_size _ rfl, rfl, 0, rfl⟩
  refine call_min_three (wpAny_pyIter_tuple hT ?_)
  have hsz : (s.heap.push { cls := .type "tuple", data := .seq #[.float x t, .float y u, .float z v] }).objs.size = s.heap.objs.size + 1 := Heap.size_push ..
  refine ⟨_, [_, s.heap.objs.size], [_], _, _, _, _, rfl, Walks.tuple (A := A.in1) hh _ s.heap.objs.size (by rw [hsz]; exact Nat.ne_of_lt (Nat.lt_succ_self _)) #[.float x t, .float y u, .float z v],
    ⟨⟨_, Heap.get?_push_size _ rfl, rfl, rfl⟩, hT.push _⟩, fun c hc => ?_, by simp, Flt.cmpOf_lt #[.float x t, .float y u, .float z v] ?_, fun r h' tk hP hk => ?_⟩
  · show c < ((s.heap.push _).push _).objs.size
    rw [Heap.size_push, hsz]
    rcases List.mem_cons.mp hc with rfl | hc
    · rw [hsz]; exact Nat.lt_succ_self _
    · rcases List.mem_cons.mp hc with rfl | hc
      · exact Nat.lt_succ_of_lt (Nat.lt_succ_self _)
      · cases hc
  · intro q hq
    simp only [List.mem_toArray, List.mem_cons, List.not_mem_nil, or_false] at hq
    rcases hq with rfl | rfl | rfl
    · exact .float _ _
    · exact .float _ _
    · exact .float _ _
  · have hold : ∀ c o, s.heap.get? c = some o → h'.get? c = some o := fun c o e => by
      refine hk c o (fun hm => ?_) (Heap.get?_push_of_some _ (Heap.get?_push_of_some _ e))
      rcases List.mem_cons.mp hm with e1 | hm
      · have := Heap.lt_size e; rw [e1, hsz] at this; exact Nat.lt_irrefl _ (Nat.lt_of_succ_lt this)
      · cases hm
    obtain ⟨q, hq, hv⟩ : ∃ q, (q = t ∨ q = u ∨ q = v) ∧ r = .float (fmin3 x y z) q := by
      have e1 : Flt.ltV (.float y u) (.float x t) = flt y x := rfl
      have e2 : Flt.ltV (.float z v) (.float x t) = flt z x := rfl
      have e3 : Flt.ltV (.float z v) (.float y u) = flt z y := rfl
      cases c1 : flt y x <;> cases c2 : flt z x <;> cases c3 : flt z y <;> simp [argBest, e1, e2, e3, c1, c2, c3] at hP <;> subst hP <;> simp [fmin3, c1, c2, c3]
    rw [hv]
    exact h h' tk q hq (F.grownK hold) (N.grown hold)
def rgbH (r g b mx mn : UInt64) : UInt64 :=
  (Float64.divmod (Float64.div
    (if (Float64.cmp r mx == some Ordering.eq) = true then Float64.sub (Float64.div (Float64.sub mx b) (Float64.sub mx mn)) (Float64.div (Float64.sub mx g) (Float64.sub mx mn))
     else if (Float64.cmp g mx == some Ordering.eq) = true then Float64.sub (Float64.add 4611686018427387904 (Float64.div (Float64.sub mx r) (Float64.sub mx mn))) (Float64.div (Float64.sub mx b) (Float64.sub mx mn))
     else Float64.sub (Float64.add 4616189618054758400 (Float64.div (Float64.sub mx g) (Float64.sub mx mn))) (Float64.div (Float64.sub mx r) (Float64.sub mx mn)))
    4618441417868443648) 4607182418800017408).2
section
local macro_rules | `(tactic| walk_at "execs nil") => `(tactic| first | (refine gen_toks _ ?_; intro tkp; refine wpAny_execs_nil ?_) | refine wpAny_execs_nil ?_)
local macro_rules | `(tactic| walk_at "execs cons") => `(tactic| ((first | (refine gen_toks _ ?_; intro tkp; refine wpAny_execs_cons ?_) | refine wpAny_execs_cons ?_); try dsimp only))
local macro_rules | `(tactic| walk_at "call builtin:max") => `(tactic| refine Stop.intro ?_)
local macro_rules | `(tactic| walk_at "call builtin:min") => `(tactic| refine Stop.intro ?_)
theorem rgbC (w : World) (p : Program) (loose : List Str) (mean : ExcName → Option Value) (mg mb : Str → Option Value)
    (dp un : Nat) (gd : Option (List Code)) (cn : Str) (cs : Scope) (a : Addr) (ccd : Value) (cl : List (Str × Addr)) (outer : List Env) (A₀ : Around) (base h₀ : Heap) (L : Addr) (m : Str → Option Value) (s : Shared) (Q E : Value → Shared → Prop)
    (news : List (Addr × Obj)) (rr gg bb : UInt64) (t1 t2 t3 : Tok)
    (mx mn : UInt64) (hmx : fmax3 rr gg bb = mx) (hmn : fmin3 rr gg bb = mn) (hne : (Float64.cmp mn mx == some Ordering.eq) = false) (hz : Float64.isZero mx = false) (hrz : Float64.isZero (Float64.sub mx mn) = false) (ht : t1 ≠ 0 ∧ t2 ≠ 0 ∧ t3 ≠ 0)
    (B : Below A₀ base outer h₀) (F : Fr h₀ L s.heap m) (X : (hd.heap_39 w.params).In h₀) (N : News h₀ L s.heap news) (T : Top p loose mean mg mb h₀) (hk : cs.kind = .function)
    (hdp : dp + 4 < recursionLimit) (hu : un + 40 < cLine)
    (hret : ∀ D t1 t2 t3 h' tk', t1 ≠ 0 ∧ t2 ≠ 0 ∧ t3 ≠ 0 → Fr h₀ L h' m → News h₀ L h' ((D, { cls := .type "tuple", data := .seq #[.float (rgbH rr gg bb mx mn) t1, .float (Float64.div (Float64.sub mx mn) mx) t2, .float mx t3] }) :: news) → (∀ q ∈ news, q.1 < D) → Q (.ref D) { s with heap := h', toks := tk' }) :
    wpAny (model prog w) (ktrTop dp un gd cn cs L a ccd cl outer) (call (.ref 64) [.float rr t1, .float gg t2, .float bb t3] []) Q E s := by
  refine wpAny_call ?_
  k_dflt (walk_at "MyEnter")
  k_steps
  refine Stop.go ?_
  rename Fr _ _ _ _ => F1
  rename News _ _ _ _ => N1
  refine max3_ff rfl F1 N1 ?_
  rw [hmx]
  intro h2 tk2 q2 hq2 F2 N2
  clear F1 N1
  k_steps
  refine Stop.go ?_
  rename Fr _ _ _ _ => F1
  rename News _ _ _ _ => N1
  refine min3_ff rfl F1 N1 ?_
  rw [hmn]
  intro h3 tk3 q3 hq3 F3 N3
  clear F1 N1
  have hmq : q2 ≠ 0 := by
    obtain ⟨k1, k2, k3⟩ := ht
    rcases hq2 with rfl | rfl | rfl <;> assumption
  k_steps
  all_goals (rename Fr _ _ _ _ => F9; rename News _ _ _ _ => N9; rename ∀ p ∈ news, p.1 < _ => l9)
  · rename (Float64.cmp rr mx == some Ordering.eq) = true => c1
    refine' hret _ ?taa ?tba ?tca _ _ ?tza F9 ?n9a l9
    case' n9a => unfold rgbH
    case n9a => (rw [if_pos c1]; exact N9)
    case tza => exact ⟨Nat.succ_ne_zero _, Nat.succ_ne_zero _, hmq⟩
  · rename (Float64.cmp rr mx == some Ordering.eq) = false => c1
    rename (Float64.cmp gg mx == some Ordering.eq) = true => c2
    refine' hret _ ?tab ?tbb ?tcb _ _ ?tzb F9 ?n9b l9
    case' n9b => unfold rgbH
    case n9b => (rw [if_neg (by rw [c1]; decide), if_pos c2]; exact N9)
    case tzb => exact ⟨Nat.succ_ne_zero _, Nat.succ_ne_zero _, hmq⟩
  · rename (Float64.cmp rr mx == some Ordering.eq) = false => c1
    rename (Float64.cmp gg mx == some Ordering.eq) = false => c2
    refine' hret _ ?tac ?tbc ?tcc _ _ ?tzc F9 ?n9c l9
    case' n9c => unfold rgbH
    case n9c => (rw [if_neg (by rw [c1]; decide), if_neg (by rw [c2]; decide)]; exact N9)
    case tzc => exact ⟨Nat.succ_ne_zero _, Nat.succ_ne_zero _, hmq⟩
end
def fr (n d : Nat) : UInt64 := Float64.ofFrac false n d
def colOk (h sh lv want : UInt64) : Bool :=
  !(Float64.cmp sh 0 == some Ordering.eq) && !Float64.isNaN (Float64.mul h 4618441417868443648) && !Float64.isInf (Float64.mul h 4618441417868443648) && decide (0 ≤ hI h) && decide (hI h < 100) &&
  (match hsvP h sh lv with
   | (r, g, b) => !(Float64.cmp (fmin3 r g b) (fmax3 r g b) == some Ordering.eq) && !Float64.isZero (fmax3 r g b) && !Float64.isZero (Float64.sub (fmax3 r g b) (fmin3 r g b)) &&
      (rgbH r g b (fmax3 r g b) (fmin3 r g b) == want) && (Float64.div (Float64.sub (fmax3 r g b) (fmin3 r g b)) (fmax3 r g b) == sh) && (fmax3 r g b == lv))
theorem col1at0 : ∀ x < 4, ∀ y < 4, colOk (fr 0 16) (fr (x + 1) 4) (fr (y + 1) 4) (fr 0 16) = true := by decide +kernel
theorem col1at1 : ∀ x < 4, ∀ y < 4, colOk (fr 1 16) (fr (x + 1) 4) (fr (y + 1) 4) (fr 1 16) = true := by decide +kernel
theorem col1at2 : ∀ x < 4, ∀ y < 4, colOk (fr 2 16) (fr (x + 1) 4) (fr (y + 1) 4) (fr 2 16) = true := by decide +kernel
theorem col1at3 : ∀ x < 4, ∀ y < 4, colOk (fr 3 16) (fr (x + 1) 4) (fr (y + 1) 4) (fr 3 16) = true := by decide +kernel
theorem col1at4 : ∀ x < 4, ∀ y < 4, colOk (fr 4 16) (fr (x + 1) 4) (fr (y + 1) 4) (fr 4 16) = true := by decide +kernel
theorem col1at5 : ∀ x < 4, ∀ y < 4, colOk (fr 5 16) (fr (x + 1) 4) (fr (y + 1) 4) (fr 5 16) = true := by decide +kernel
theorem col1at6 : ∀ x < 4, ∀ y < 4, colOk (fr 6 16) (fr (x + 1) 4) (fr (y + 1) 4) (fr 6 16) = true := by decide +kernel
theorem col1at7 : ∀ x < 4, ∀ y < 4, colOk (fr 7 16) (fr (x + 1) 4) (fr (y + 1) 4) (fr 7 16) = true := by decide +kernel
theorem col1at8 : ∀ x < 4, ∀ y < 4, colOk (fr 8 16) (fr (x + 1) 4) (fr (y + 1) 4) (fr 8 16) = true := by decide +kernel
theorem col1at9 : ∀ x < 4, ∀ y < 4, colOk (fr 9 16) (fr (x + 1) 4) (fr (y + 1) 4) (fr 9 16) = true := by decide +kernel
theorem col1at10 : ∀ x < 4, ∀ y < 4, colOk (fr 10 16) (fr (x + 1) 4) (fr (y + 1) 4) (fr 10 16) = true := by decide +kernel
theorem col1at11 : ∀ x < 4, ∀ y < 4, colOk (fr 11 16) (fr (x + 1) 4) (fr (y + 1) 4) (fr 11 16) = true := by decide +kernel
theorem col1at12 : ∀ x < 4, ∀ y < 4, colOk (fr 12 16) (fr (x + 1) 4) (fr (y + 1) 4) (fr 12 16) = true := by decide +kernel
theorem col1at13 : ∀ x < 4, ∀ y < 4, colOk (fr 13 16) (fr (x + 1) 4) (fr (y + 1) 4) (fr 13 16) = true := by decide +kernel
theorem col1at14 : ∀ x < 4, ∀ y < 4, colOk (fr 14 16) (fr (x + 1) 4) (fr (y + 1) 4) (fr 14 16) = true := by decide +kernel
theorem col1at15 : ∀ x < 4, ∀ y < 4, colOk (fr 15 16) (fr (x + 1) 4) (fr (y + 1) 4) (fr 15 16) = true := by decide +kernel
theorem col1at16 : ∀ x < 4, ∀ y < 4, colOk (fr 16 16) (fr (x + 1) 4) (fr (y + 1) 4) (fr 0 16) = true := by decide +kernel
theorem col1at17 : ∀ x < 4, ∀ y < 4, colOk (fr 17 16) (fr (x + 1) 4) (fr (y + 1) 4) (fr 1 16) = true := by decide +kernel
theorem col1at18 : ∀ x < 4, ∀ y < 4, colOk (fr 18 16) (fr (x + 1) 4) (fr (y + 1) 4) (fr 2 16) = true := by decide +kernel
theorem col1at19 : ∀ x < 4, ∀ y < 4, colOk (fr 19 16) (fr (x + 1) 4) (fr (y + 1) 4) (fr 3 16) = true := by decide +kernel
theorem col1at20 : ∀ x < 4, ∀ y < 4, colOk (fr 20 16) (fr (x + 1) 4) (fr (y + 1) 4) (fr 4 16) = true := by decide +kernel
theorem col1at21 : ∀ x < 4, ∀ y < 4, colOk (fr 21 16) (fr (x + 1) 4) (fr (y + 1) 4) (fr 5 16) = true := by decide +kernel
theorem col1at22 : ∀ x < 4, ∀ y < 4, colOk (fr 22 16) (fr (x + 1) 4) (fr (y + 1) 4) (fr 6 16) = true := by decide +kernel
theorem col1at23 : ∀ x < 4, ∀ y < 4, colOk (fr 23 16) (fr (x + 1) 4) (fr (y + 1) 4) (fr 7 16) = true := by decide +kernel
theorem col1at24 : ∀ x < 4, ∀ y < 4, colOk (fr 24 16) (fr (x + 1) 4) (fr (y + 1) 4) (fr 8 16) = true := by decide +kernel
theorem col1at25 : ∀ x < 4, ∀ y < 4, colOk (fr 25 16) (fr (x + 1) 4) (fr (y + 1) 4) (fr 9 16) = true := by decide +kernel
theorem col1at26 : ∀ x < 4, ∀ y < 4, colOk (fr 26 16) (fr (x + 1) 4) (fr (y + 1) 4) (fr 10 16) = true := by decide +kernel
theorem col1at27 : ∀ x < 4, ∀ y < 4, colOk (fr 27 16) (fr (x + 1) 4) (fr (y + 1) 4) (fr 11 16) = true := by decide +kernel
theorem col1at28 : ∀ x < 4, ∀ y < 4, colOk (fr 28 16) (fr (x + 1) 4) (fr (y + 1) 4) (fr 12 16) = true := by decide +kernel
theorem col1at29 : ∀ x < 4, ∀ y < 4, colOk (fr 29 16) (fr (x + 1) 4) (fr (y + 1) 4) (fr 13 16) = true := by decide +kernel
theorem col1at30 : ∀ x < 4, ∀ y < 4, colOk (fr 30 16) (fr (x + 1) 4) (fr (y + 1) 4) (fr 14 16) = true := by decide +kernel
theorem col1at31 : ∀ x < 4, ∀ y < 4, colOk (fr 31 16) (fr (x + 1) 4) (fr (y + 1) 4) (fr 15 16) = true := by decide +kernel
theorem col1 : ∀ q < 32, ∀ x < 4, ∀ y < 4, colOk (fr q 16) (fr (x + 1) 4) (fr (y + 1) 4) (fr (q % 16) 16) = true := by
  intro q hq
  have h : q = 0 ∨ q = 1 ∨ q = 2 ∨ q = 3 ∨ q = 4 ∨ q = 5 ∨ q = 6 ∨ q = 7 ∨ q = 8 ∨ q = 9 ∨ q = 10 ∨ q = 11 ∨ q = 12 ∨ q = 13 ∨ q = 14 ∨ q = 15 ∨ q = 16 ∨ q = 17 ∨ q = 18 ∨ q = 19 ∨ q = 20 ∨ q = 21 ∨ q = 22 ∨ q = 23 ∨ q = 24 ∨ q = 25 ∨ q = 26 ∨ q = 27 ∨ q = 28 ∨ q = 29 ∨ q = 30 ∨ q = 31 := by omega
  rcases h with rfl | rfl | rfl | rfl | rfl | rfl | rfl | rfl | rfl | rfl | rfl | rfl | rfl | rfl | rfl | rfl | rfl | rfl | rfl | rfl | rfl | rfl | rfl | rfl | rfl | rfl | rfl | rfl | rfl | rfl | rfl | rfl
  · exact col1at0
  · exact col1at1
  · exact col1at2
  · exact col1at3
  · exact col1at4
  · exact col1at5
  · exact col1at6
  · exact col1at7
  · exact col1at8
  · exact col1at9
  · exact col1at10
  · exact col1at11
  · exact col1at12
  · exact col1at13
  · exact col1at14
  · exact col1at15
  · exact col1at16
  · exact col1at17
  · exact col1at18
  · exact col1at19
  · exact col1at20
  · exact col1at21
  · exact col1at22
  · exact col1at23
  · exact col1at24
  · exact col1at25
  · exact col1at26
  · exact col1at27
  · exact col1at28
  · exact col1at29
  · exact col1at30
  · exact col1at31
theorem colOk_spec {h sh lv want : UInt64} (e : colOk h sh lv want = true) :
    (Float64.cmp sh 0 == some Ordering.eq) = false ∧ Float64.isNaN (Float64.mul h 4618441417868443648) = false ∧ Float64.isInf (Float64.mul h 4618441417868443648) = false ∧ (0 ≤ hI h ∧ hI h < 100) ∧
    ∀ r g b, hsvP h sh lv = (r, g, b) → (Float64.cmp (fmin3 r g b) (fmax3 r g b) == some Ordering.eq) = false ∧ Float64.isZero (fmax3 r g b) = false ∧ Float64.isZero (Float64.sub (fmax3 r g b) (fmin3 r g b)) = false ∧
      rgbH r g b (fmax3 r g b) (fmin3 r g b) = want ∧ Float64.div (Float64.sub (fmax3 r g b) (fmin3 r g b)) (fmax3 r g b) = sh ∧ fmax3 r g b = lv := by
  unfold colOk at e
  simp only [Bool.and_eq_true, Bool.not_eq_true', decide_eq_true_eq] at e
  obtain ⟨⟨⟨⟨⟨e1, e2⟩, e3⟩, e4⟩, e5⟩, e6⟩ := e
  refine ⟨e1, e2, e3, ⟨e4, e5⟩, fun r g b hv => ?_⟩
  rw [hv] at e6
  simp only [Bool.and_eq_true, Bool.not_eq_true', beq_iff_eq] at e6
  obtain ⟨⟨⟨⟨⟨f1, f2⟩, f3⟩, f4⟩, f5⟩, f6⟩ := e6
  exact ⟨f1, f2, f3, f4, f5, f6⟩
theorem eqBool_float {prog : Program} {w : World} {A : Around} {E : Value → Shared → Prop} {s : Shared} {x : UInt64} {t u : Tok} {Q : Bool → Shared → Prop} {P : Params} (X : (hd.heap_39 P).In s.heap) (ht : t ≠ 0) (hu : u ≠ 0) (hx : (Float64.cmp x x == some Ordering.eq) = true) (h : Q true s) : wpAny (model prog w) A (eqBool (.float x t) (.float x u)) Q E s := by
  unfold eqBool
  show wpAny _ _ (if (Value.float x t == Value.float x u) = true then _ else _) Q E s
  by_cases hab : (Value.float x t == Value.float x u) = true
  · rw [if_pos hab]
    exact wpAny_bind (wpAny_rule (wpAny_pure h))
  · rw [if_neg hab]
    have last : wpAny (model prog w) A (do let v ← richCompare CmpOp.Eq (Value.float x t) (Value.float x u); truthOfDropped v) Q E s :=
      wpAny_bind (AutoFloatOps.eq_0 (by rw [hx]; exact wpAny_bind (wpAny_truthy_bool (wpAny_pure h))))
    refine wpAny_bind ?_
    show wpAny _ _ (isSame.created (x == x && !Float64.isNaN x) t u) _ _ _
    unfold isSame.created
    rw [if_neg (by simp [ht, hu])]
    by_cases htu : (t == u) = true
    · rw [if_pos htu]
      refine wpAny_pure ?_
      rw [if_pos rfl]
      exact wpAny_pure h
    · rw [if_neg htu]
      by_cases hc : (!(x == x && !Float64.isNaN x)) = true
      · rw [if_pos hc]
        refine wpAny_pure ?_
        rw [if_neg (by decide)]
        exact last
      · rw [if_neg hc]
        refine wpAny_bind (not_told X ?_)
        rw [if_neg (by decide)]
        refine wpAny_bind (not_told X ?_)
        rw [if_neg (by decide)]
        refine wpAny_bind (wpAny_rule (wpAny_bind (wpAny_askSetting (wpAny_pure ?_))))
        split
        · exact wpAny_pure h
        · exact last
theorem tuple3_ne {prog : Program} {w : World} {A : Around} {E : Value → Shared → Prop} {s : Shared} {a b : Addr} {x y z : UInt64} {t1 t2 t3 u1 u2 u3 : Tok} {Q : Value → Shared → Prop} {P : Params} (X : (hd.heap_39 P).In s.heap) (hu : A.units < cLine)
    (ha : s.heap.get? a = some { cls := .type "tuple", data := .seq #[.float x t1, .float y t2, .float z t3] }) (hb : s.heap.get? b = some { cls := .type "tuple", data := .seq #[.float x u1, .float y u2, .float z u3] })
    (ht : t1 ≠ 0 ∧ t2 ≠ 0 ∧ t3 ≠ 0 ∧ u1 ≠ 0 ∧ u2 ≠ 0 ∧ u3 ≠ 0)
    (hx : (Float64.cmp x x == some Ordering.eq) = true) (hy : (Float64.cmp y y == some Ordering.eq) = true) (hz : (Float64.cmp z z == some Ordering.eq) = true) (h : Q (.bool false) s) :
    wpAny (model prog w) A (compareOp .NotEq (.ref a) (.ref b)) Q E s := by
  have hTa : s.TypeIs (.ref a) "tuple" := ⟨_, ha, rfl⟩
  have hTb : s.TypeIs (.ref b) "tuple" := ⟨_, hb, rfl⟩
  refine cmp_ofNotEq (wpAny_richCompare_same_room (op := .NotEq) hTa hTb PySem.F.slot_tuple_ne (wpAny_call_entry PySem.F.slot_tuple_ne hTa PySem.F.entry_tuple_ne ?_ (PySem.F.args_tuple_ne_2 _ _)) hu)
  show wpAny _ _ (isInstance (.ref b) (.type "tuple") >>= _) _ _ s
  refine wpAny_bind (wpAny_isInstance hTb isSubtype_tuple_tuple ?_)
  simp only [Bool.not_true, Bool.false_eq_true, if_false]
  refine wpAny_bind (wpAny_tupleItemsOf ha rfl ?_)
  refine wpAny_bind (wpAny_tupleItemsOf hb rfl ?_)
  refine wpAny_bind ?_
  refine wpAny_forIn_list _
    (fun rest r s' => r.1 = none ∧ s' = s ∧ ∀ p ∈ rest, ∃ v t u, p = (Value.float v t, Value.float v u) ∧ t ≠ 0 ∧ u ≠ 0 ∧ (Float64.cmp v v == some Ordering.eq) = true)
    _ ?_ ?_ _ _ ⟨rfl, rfl, ?_⟩
  · rintro ⟨p, q⟩ rest r s' ⟨hr, rfl, hall⟩
    obtain ⟨v, t, u, e, ht', hu', hv⟩ := hall _ (List.mem_cons_self ..)
    injection e with e1 e2
    subst e1
    subst e2
    refine wpAny_bind (eqBool_float X ht' hu' hv ?_)
    simp only [Bool.not_true, Bool.false_eq_true, if_false]
    exact wpAny_pure ⟨rfl, rfl, fun p hp => hall p (List.mem_cons_of_mem _ hp)⟩
  · rintro ⟨r1, r2⟩ s' ⟨hr, rfl, -⟩
    simp only at hr
    subst hr
    refine wpAny_pure ?_
    exact ⟨_, rfl, (fun e => nomatch e), h⟩
  · intro p hp
    simp only [List.zip_cons_cons, List.zip_nil_right, List.mem_cons, List.not_mem_nil, or_false] at hp
    obtain ⟨k1, k2, k3, k4, k5, k6⟩ := ht
    rcases hp with rfl | rfl | rfl
    · exact ⟨x, t1, u1, rfl, k1, k4, hx⟩
    · exact ⟨y, t2, u2, rfl, k2, k5, hy⟩
    · exact ⟨z, t3, u3, rfl, k3, k6, hz⟩
theorem div_nat {prog : Program} {w : World} {A : Around} {E : Value → Shared → Prop} {s : Shared} {Q : Value → Shared → Prop} {a b : Int} {t u : Tok} (hA : A.handled = none) (ha : 0 ≤ a) (hb : 0 < b) (hf : a < 1000)
    (h : Q (.float (fr a.toNat b.toNat) s.toks) { s with toks := s.toks + 1 }) : wpAny (model prog w) A (binaryOp .Div (.int a t) (.int b u)) Q E s := by
  refine Flt.div_ii_fits hA ?_ (fun e => absurd e (by omega)) (fun _ _ => ?_)
  · exact Nat.lt_trans (show a.natAbs < 1000 by omega) (by decide +kernel)
  · have e1 : (decide (a < 0) != decide (b < 0)) = false := by
      rw [decide_eq_false (by omega), decide_eq_false (by omega)]; rfl
    have e2 : a.natAbs = a.toNat := by omega
    have e3 : b.natAbs = b.toNat := by omega
    rw [e1, e2, e3]
    exact h
theorem div_natE {prog : Program} {w : World} {A : Around} {E : Value → Shared → Prop} {s : Shared} {Q : Value → Shared → Prop} {a b : Int} {t u : Tok} (n d : Nat) (hA : A.handled = none) (ha : a = (n : Int)) (hb : b = (d : Int)) (hd : 0 < d) (hn : n < 1000)
    (h : Q (.float (fr n d) s.toks) { s with toks := s.toks + 1 }) : wpAny (model prog w) A (binaryOp .Div (.int a t) (.int b u)) Q E s := by
  subst ha
  subst hb
  exact div_nat hA (by omega) (by omega) (by omega) h
theorem allLt_mem {d : Addr} : ∀ {l : List (Addr × Obj)}, AllLt d l → ∀ q ∈ l, q.1 < d
  | [], _, _, h => nomatch h
  | _ :: _, x, q, h => by
    rcases List.mem_cons.mp h with rfl | h
    · exact x.1
    · exact allLt_mem x.2 q h
theorem offs_of {l na pa : Addr} {xs : List Addr} {o1 o2 : Obj} {rest own : List (Addr × Obj)} (lA : na < l ∧ pa < l ∧ AllLt l rest) (ho : OwnOff own (l :: xs)) : ∀ q ∈ (na, o1) :: (pa, o2) :: (rest ++ own), q.1 ≠ l := by
  intro q hq
  rcases List.mem_cons.mp hq with rfl | hq
  · exact Nat.ne_of_lt lA.1
  · rcases List.mem_cons.mp hq with rfl | hq
    · exact Nat.ne_of_lt lA.2.1
    · rcases List.mem_append.mp hq with hq | hq
      · exact Nat.ne_of_lt (allLt_mem lA.2.2 q hq)
      · exact ho q hq _ (List.mem_cons_self ..)
theorem news_pick {h₀ h : Heap} {L : Addr} {a b c d : Addr × Obj} {l : List (Addr × Obj)} (N : News h₀ L h (a :: b :: c :: d :: l)) : News h₀ L h (d :: b :: l) := fun p hp => by
  rcases List.mem_cons.mp hp with rfl | hp
  · exact N _ (List.mem_cons_of_mem _ (List.mem_cons_of_mem _ (List.mem_cons_of_mem _ (List.mem_cons_self ..))))
  · rcases List.mem_cons.mp hp with rfl | hp
    · exact N _ (List.mem_cons_of_mem _ (List.mem_cons_self ..))
    · exact N p (List.mem_cons_of_mem _ (List.mem_cons_of_mem _ (List.mem_cons_of_mem _ (List.mem_cons_of_mem _ hp))))
theorem offs_cons {l : Addr} {b : Addr × Obj} {xs : List (Addr × Obj)} (hb : l < b.1) (h : ∀ q ∈ xs, q.1 ≠ l) : ∀ q ∈ b :: xs, q.1 ≠ l := by
  intro q hq
  rcases List.mem_cons.mp hq with rfl | hq
  · exact Nat.ne_of_gt hb
  · exact h q hq
theorem floats_snoc {vs : List Value} {bs : List UInt64} (h : Flt.FloatsAre vs bs) (b : UInt64) (t : Tok) : Flt.FloatsAre (vs ++ [.float b t]) (bs ++ [b]) := by
  induction h with
  | nil => exact .cons _ _ .nil
  | cons b' t' h ih => exact .cons _ _ ih
theorem fmod4 (a : Int) : ∃ x : Nat, x < 4 ∧ a.fmod 4 = (x : Int) := by
  have g1 := Int.fmod_nonneg_of_pos (a := a) (b := 4) (by decide)
  have g2 := Int.fmod_lt_of_pos a (b := 4) (by decide)
  exact ⟨(a.fmod 4).toNat, by omega, by omega⟩
section
local macro_rules | `(tactic| walk_at "execs nil") => `(tactic| first | (refine gen_toks _ ?_; intro tkp; refine wpAny_execs_nil ?_) | refine wpAny_execs_nil ?_)
local macro_rules | `(tactic| walk_at "execs cons") => `(tactic| ((first | (refine gen_toks _ ?_; intro tkp; refine wpAny_execs_cons ?_) | refine wpAny_execs_cons ?_); try dsimp only))
local macro_rules | `(tactic| walk_at "compareOp NotEq ref ref") => `(tactic| refine Stop.intro ?_)
local macro_rules | `(tactic| walk_at "binaryOp Div int int") => `(tactic| refine Stop.intro ?_)
local macro_rules | `(tactic| walk_at "InvPostN") => `(tactic| refine Stop.intro ?_)
local macro_rules | `(tactic| walk_at "InvEndN") => `(tactic| refine Stop.intro ?_)
local macro_rules | `(tactic| walk_at "pyIter ref") => `(tactic| refine Stop.intro ?_)
local macro_rules | `(tactic| walk_at "call ref") => `(tactic| refine Stop.intro ?_)
def hueAt (pls : List Int) (sz st : Nat) (k : Nat) : UInt64 := match k with
  | 0 => fr (pls.getD 0 0).toNat sz
  | j + 1 => Float64.add (fr (pls.getD j 0).toNat sz) (fr st sz)
theorem huesC (w : World) (p : Program) (loose : List Str) (mean : ExcName → Option Value) (mg mb : Str → Option Value)
    (dp un : Nat) (gd : Option (List Code)) (cn : Str) (cs : Scope) (a : Addr) (ccd : Value) (cl : List (Str × Addr)) (outer : List Env) (A₀ : Around) (base h₀ : Heap) (L : Addr) (m : Str → Option Value) (s : Shared) (Q E : Value → Shared → Prop)
    (rest : List (Addr × Obj)) (na pa : Addr) (nvs pvs : List Value) (n1 n2 : Nat) (ns pls : List Int) (hns : IntsAre nvs ns) (hn4 : ns.length = 4) (hpl : IntsAre pvs pls) (sz st : Nat) (t1 t2 : Tok)
    (hsz : sz = 4 ∨ sz = 8 ∨ sz = 16) (hst : 0 < st ∧ st < sz) (hlen : pls.length = sz) (hpb : ∀ q ∈ pls, 0 ≤ q ∧ q < sz) (hps : ∀ k, k + 1 < sz → (pls.getD (k + 1) 0).toNat = ((pls.getD k 0).toNat + st) % sz)
    (B : Below A₀ base outer h₀) (F : Fr h₀ L s.heap m) (X : (hd.heap_39 w.params).In h₀) (N : News h₀ L s.heap ((na, listOf nvs.toArray n1) :: (pa, listOf pvs.toArray n2) :: rest)) (T : Top p loose mean mg mb h₀) (hk : cs.kind = .function)
    (hdp : dp + 6 < recursionLimit) (hu : un + 60 < cLine)
    (hself : ∀ q ∈ pls, (Float64.cmp (fr q.toNat sz) (fr q.toNat sz) == some Ordering.eq) = true) (hself4 : ∀ x < 4, (Float64.cmp (fr (x + 1) 4) (fr (x + 1) 4) == some Ordering.eq) = true)
    (hcol : ∀ kn x y, kn < sz → x < 4 → y < 4 → colOk (hueAt pls sz st kn) (fr (x + 1) 4) (fr (y + 1) 4) (fr (pls.getD kn 0).toNat sz) = true)
    (hret : ∀ lh fvs fn h' tk', Flt.FloatsAre fvs (pls.map (fun q => fr q.toNat sz)) → Fr h₀ L h' m → News h₀ L h' ((lh, listOf fvs.toArray fn) :: (na, listOf nvs.toArray n1) :: (pa, listOf pvs.toArray n2) :: rest) → na < lh ∧ pa < lh ∧ AllLt lh rest → Q (.ref lh) { s with heap := h', toks := tk' }) :
    wpAny (model prog w) (ktrTop dp un gd cn cs L a ccd cl outer) (call (.ref 85) [.ref na, .int sz t1, .int st t2, .ref pa] []) Q E s := by
  have hs1 : (0 : Int) < (sz : Int) := by omega
  have hs2 : (sz : Int) ≤ 16 := by omega
  have hpll : (0 : Int) < (pls.length : Int) := by omega
  refine wpAny_call ?_
  k_dflt (walk_at "MyEnter")
  have hp0 : 0 ≤ pls.getD (Int.toNat 0) 0 ∧ pls.getD (Int.toNat 0) 0 < sz := by
    have h9 : 0 < pls.length := by omega
    have : pls.getD (Int.toNat 0) 0 = pls[0] := by simp [List.getD_eq_getElem?_getD, h9]
    rw [this]
    exact hpb _ (List.getElem_mem h9)
  k_steps
  refine Stop.go ?_
  refine div_nat rfl hp0.1 (by omega) (by omega) ?_
  k_steps
  refine Stop.go ?_
  rename Fr _ _ _ _ => F1
  rename News _ _ _ _ => N1
  with_unfolding_all refine' kst_range (σ := (List Value × Nat) × (UInt64 × Tok)) (n := sz) (fun c => (_, listOf c.1.1.toArray c.1.2) :: (na, listOf nvs.toArray n1) :: (pa, listOf pvs.toArray n2) :: rest) (fun c => [("hue", .float c.2.1 c.2.2)]) (fun _ => True) ["share", "level", "red", "green", "blue", "told"] (fun pre c => Flt.FloatsAre c.1.1 ((pls.take pre.length).map (fun q => fr q.toNat sz)) ∧ c.2.1 = hueAt pls sz st pre.length) (([], 0), (fr (pls.getD (Int.toNat 0) 0).toNat (Int.toNat sz), _)) rfl (by assumption) ?sm ?rs F1 N1 trivial ?hk1 ?hp1 ?turn ?done
  case sm => exact small_one (by omega) (by omega) (by omega) (by omega)
  case rs => first | exact rangeSize_nat _ _ | (have := rangeSize_nat 0 sz; simpa using this)
  case hk1 => exact List.forall_mem_cons.mpr ⟨by with_unfolding_all rfl, List.forall_mem_nil _⟩
  case hp1 => exact ⟨.nil, rfl⟩
  case done =>
    intro c u h2 tk2 _ hP F2 N2
    obtain ⟨⟨fvs, fn⟩, ⟨hue, th⟩⟩ := c
    obtain ⟨hP1, hP2⟩ := hP
    dsimp only at F2 N2 hP1 hP2
    have eT : pls.take sz = pls := List.take_of_length_le (by omega)
    rw [rangeKs_length, eT] at hP1
    clear F1 N1
    k_steps
    rename Fr _ _ _ _ => F3
    rename News _ _ _ _ => N3
    rename na < _ ∧ pa < _ ∧ AllLt _ rest => lA
    exact hret _ _ _ _ _ hP1 F3 N3 lA
  intro c pre k t u h2 tk2 own hke hkn hoff _ hP F2 N2
  obtain ⟨⟨fvs, fn⟩, ⟨hue, th⟩⟩ := c
  obtain ⟨hP1, hP2⟩ := hP
  dsimp only at F2 N2 hP1 hP2 hoff ⊢
  generalize hkk : pre.length = kn at hke hkn hP1 hP2
  clear F1 N1
  rw [Int.zero_add] at hke
  subst hke
  simp only [List.cons_append] at N2
  have hk4 : (kn : Int).fmod 4 = ((kn % 4 : Nat) : Int) := by rw [Int.fmod_eq_emod_of_nonneg _ (by decide)]; omega
  k_steps
  refine Stop.go ?_
  dsimp only
  obtain ⟨x, hx, hxe⟩ := fmod4 (ns.getD ((kn : Int).fmod 4).toNat 0 + (kn : Int).fdiv 4)
  refine div_natE (x + 1) 4 rfl (by rw [hxe]; omega) rfl (by decide) (by omega) ?_
  dsimp only
  k_steps
  refine Stop.go ?_
  dsimp only
  obtain ⟨y, hy, hye⟩ := fmod4 ((ns.getD ((kn : Int).fmod 4).toNat 0).fdiv 4 + (kn : Int).fdiv 4)
  refine div_natE (y + 1) 4 rfl (by rw [hye]; omega) rfl (by decide) (by omega) ?_
  dsimp only
  k_steps
  refine Stop.go ?_
  try dsimp only
  subst hP2
  obtain ⟨g1, g2, g3, g4, g5⟩ := colOk_spec (hcol kn x y hkn hx hy)
  rename Fr _ _ _ _ => F3
  rename News _ _ _ _ => N3
  with_unfolding_all refine' hsvC w p loose mean mg mb _ _ _ _ _ _ _ _ _ _ _ _ _ _ _ _ _ _ _ _ _ _ _ _ g1 g2 g3 g4 (Nat.succ_ne_zero _) ?B F3 ?X N3 ?T rfl ?d ?u ?ret
  case B => k_asm
  case X => k_asm
  case T => k_asm
  case d => ktr_room
  case u => ktr_units
  intro D3 r g b tr tg tb h4 tk4 hv htok F4 N4 l4
  clear g1 g2 g3 g4
  clear F3 N3
  k_steps
  refine Stop.go ?_
  rename Fr _ _ _ _ => F5
  rename News _ _ _ _ => N5
  obtain ⟨f1, f2, f3, f4, f5, f6⟩ := g5 r g b hv
  with_unfolding_all refine' rgbC w p loose mean mg mb _ _ _ _ _ _ _ _ _ _ _ _ _ _ _ _ _ _ r g b _ _ _ (fmax3 r g b) (fmin3 r g b) rfl rfl f1 f2 f3 htok ?B5 F5 ?X5 N5 ?T5 rfl ?d5 ?u5 ?ret5
  case B5 => k_asm
  case X5 => k_asm
  case T5 => k_asm
  case d5 => ktr_room
  case u5 => ktr_units
  rw [f4, f5, f6]
  intro D6 th6 ts6 tv6 h6 tk6 htok6 F6 N6 l6
  clear F5 N5 f1 f2 f3 f4 f5 f6 hv g5
  k_steps
  refine Stop.go ?_
  have hkp : 0 ≤ pls.getD kn 0 ∧ pls.getD kn 0 < sz := by
    have h9 : kn < pls.length := by omega
    have : pls.getD kn 0 = pls[kn] := by simp [List.getD_eq_getElem?_getD, h9]
    rw [this]
    exact hpb _ (List.getElem_mem h9)
  refine div_natE (pls.getD kn 0).toNat sz rfl (by rw [Int.toNat_natCast]; omega) rfl (by omega) (by omega) ?_
  try dsimp only
  k_steps
  refine Stop.go ?_
  rename Fr _ _ _ _ => F7
  rename News _ _ _ _ => N7
  have hkm : pls.getD kn 0 ∈ pls := by
    have h9 : kn < pls.length := by omega
    have : pls.getD kn 0 = pls[kn] := by simp [List.getD_eq_getElem?_getD, h9]
    rw [this]
    exact List.getElem_mem h9
  with_unfolding_all refine' tuple3_ne (P := w.params) ?kx ?ku (N7 _ (List.mem_cons_of_mem _ (List.mem_cons_self ..))).1 (N7 _ (List.mem_cons_self ..)).1 ⟨htok6.1, htok6.2.1, htok6.2.2, Nat.succ_ne_zero _, Nat.succ_ne_zero _, Nat.succ_ne_zero _⟩ (hself _ hkm) (hself4 x hx) (hself4 y hy) ?nx
  case kx => k_in
  case ku => ktr_units
  k_steps
  rename Fr _ _ _ _ => F8
  rename News _ _ _ _ => N8
  rename na < _ ∧ pa < _ ∧ AllLt _ rest => lA
  have hoffs := offs_of (o1 := listOf nvs.toArray n1) (o2 := listOf pvs.toArray n2) lA hoff
  have N9 := news_pick N8
  clear N8
  have hfl := hP1.length
  rw [List.length_map, List.length_take] at hfl
  with_unfolding_all refine' append_K F8 N9 (Upd.head (offs_cons (l6 _ (List.mem_cons_of_mem _ (List.mem_cons_self ..))) hoffs)) ?nxA ?szA
  case szA => rw [PySem.sizeLine_eq]; simp only [List.size_toArray]; omega
  intro hA FA NA
  clear F8 N9
  k_steps
  refine Stop.go ?_
  refine div_natE st sz rfl rfl rfl (by omega) (by omega) ?_
  try dsimp only
  k_steps
  refine Stop.go ?_
  rename Fr _ _ _ _ => FZ
  rename News _ _ _ _ => NZ
  simp only [List.push_toArray] at NZ
  with_unfolding_all refine' kst_end ((fvs ++ [.float (fr (pls.getD kn 0).toNat sz) th6], fn + 1), (Float64.add (fr (pls.getD kn 0).toNat sz) (fr st sz), _)) FZ NZ ?hnZ ?hoZ rfl trivial ?hkZ ?hrZ ?hpZ
  case hnZ =>
    intro q hq
    rcases List.mem_cons.mp hq with rfl | hq
    · exact List.mem_cons_self ..
    · refine List.mem_cons_of_mem _ (List.mem_cons_of_mem _ ?_)
      rcases List.mem_cons.mp hq with rfl | hq
      · exact List.mem_cons_self ..
      · rcases List.mem_cons.mp hq with rfl | hq
        · exact List.mem_cons_of_mem _ (List.mem_cons_self ..)
        · exact List.mem_cons_of_mem _ (List.mem_cons_of_mem _ (List.mem_append_left _ hq))
  case hoZ => exact fun q hq => List.mem_cons_of_mem _ (List.mem_cons_of_mem _ (List.mem_cons_of_mem _ (List.mem_cons_of_mem _ (List.mem_append_right _ hq))))
  case hkZ => exact List.forall_mem_cons.mpr ⟨by with_unfolding_all rfl, List.forall_mem_nil _⟩
  case hrZ =>
    intro z hz0 hz1 hz2
    have e1 : z ≠ "hue" := hz1 _ (List.mem_cons_self ..)
    have hz3 := hz2
    simp only [List.contains_cons, List.contains_nil, Bool.or_false, Bool.or_eq_false_iff, beq_eq_false_iff_ne, ne_eq] at hz2
    obtain ⟨z1, z2, z3, z4, z5, z6⟩ := hz2
    simp only [kstB, if_neg e1, if_neg z1, if_neg z2, if_neg z3, if_neg z4, if_neg z5, if_neg z6, if_neg hz0, hz3, Bool.false_eq_true, if_false]
  case hpZ =>
    refine ⟨?_, ?_⟩
    · have e9 : (pre ++ [(kn : Int)]).length = kn + 1 := by rw [List.length_append, hkk]; rfl
      rw [e9]
      have h9 : kn < pls.length := by omega
      have e8 : pls.take (kn + 1) = pls.take kn ++ [pls.getD kn 0] := by
        rw [List.take_add_one, List.getElem?_eq_getElem h9, List.getD_eq_getElem?_getD, List.getElem?_eq_getElem h9]; rfl
      rw [e8, List.map_append]
      exact floats_snoc hP1 _ _
    · have e9 : (pre ++ [(kn : Int)]).length = kn + 1 := by rw [List.length_append, hkk]; rfl
      rw [e9]
      rfl
end
def runT {α : Type} (c : Nat → Nat → Bool) : KasT α → α
  | .ret a => a
  | .ask i j k => runT c (k (c i j))
def okT {α : Type} (n : Nat) (c : Nat → Nat → Bool) : KasT α → Bool
  | .ret _ => true
  | .ask i j k => Nat.blt i n && (Nat.blt j n && okT n c (k (c i j)))
theorem runT_wp {α : Type} {n : Nat} {c : Nat → Nat → Bool} {cmp : Nat → Nat → (Bool → Shared → Prop) → Shared → Prop} {s : Shared}
    (hc : ∀ i j, i < n → j < n → ∀ C : Bool → Shared → Prop, C (c i j) s → cmp i j C s) {G : α → Shared → Prop} : ∀ t : KasT α, okT n c t = true → G (runT c t) s → t.kasWp cmp G s
  | .ret _, _, h => h
  | .ask i j k, ho, h => by
    have h1 : (Nat.blt i n && (Nat.blt j n && okT n c (k (c i j)))) = true := ho
    simp only [Bool.and_eq_true] at h1
    exact hc i j (Nat.blt_eq.mp h1.1) (Nat.blt_eq.mp h1.2.1) _ (runT_wp hc (k (c i j)) h1.2.2 h)
def cmpK (kz : List Int) (i j : Nat) : Bool := decide (kz.getD i 0 < kz.getD j 0)
def sortIdx (kz : List Int) : List Nat := (runT (cmpK kz) (kas_sort kz.length)).toList
def sortOk (kz : List Int) : Bool := okT kz.length (cmpK kz) (kas_sort kz.length) && (sortIdx kz).all fun i => Nat.blt i kz.length
theorem ints_of_get : ∀ (vs : List Value) (ns : List Int), vs.length = ns.length → (∀ (i : Nat) v, vs[i]? = some v → ∃ t, v = .int (ns.getD i 0) t) → IntsAre vs ns
  | [], [], _, _ => .nil
  | [], _ :: _, h, _ => by simp at h
  | _ :: _, [], h, _ => by simp at h
  | v :: vs, n :: ns, h, hg => by
    obtain ⟨t, rfl⟩ := hg 0 v rfl
    exact .cons n t (ints_of_get vs ns (by simpa using h) fun i v' hv => hg (i + 1) v' hv)

section
variable {prog : Program} {w : World} {A : Around} {E : Value → Shared → Prop} {s : Shared} {h₀ : Heap} {L : Addr} {m : Str → Option Value} {news : List (Addr × Obj)} {a kS : Addr} {vs : List Value} {kz : List Int} {keys : Array Value} {e e1 : Nat} {P : PySem.Fin → Shared → Prop}

theorem zip_at {i : Nat} (hk : IntsAre keys.toList kz) (hlen : kz.length = vs.length) (hi : i < kz.length) : (∃ t, (kas_item (keys.zip vs.toArray) i).1 = .int (kz.getD i 0) t) ∧ (kas_item (keys.zip vs.toArray) i).2 = vs.getD i .none := by
  have hl := hk.length
  have h1 : kz[i]? = some kz[i] := List.getElem?_eq_getElem hi
  obtain ⟨t, ht⟩ := hk.get i _ h1
  have e0 : (keys.zip vs.toArray)[i]? = some (.int kz[i] t, vs[i]'(hlen ▸ hi)) := by
    rw [← Array.getElem?_toList, ksk_zip, List.getElem?_zip_eq_some]
    exact ⟨ht, List.getElem?_eq_getElem _⟩
  have e3 : kas_item (keys.zip vs.toArray) i = (.int kz[i] t, vs[i]'(hlen ▸ hi)) := by
    unfold kas_item
    rw [Array.getD_eq_getD_getElem?, e0]; rfl
  rw [e3]
  refine ⟨⟨t, by simp [hi]⟩, ?_⟩
  have hi' : i < vs.length := hlen ▸ hi
  simp [hi']

theorem sk_end (F : Fr h₀ L s.heap m) (N : News h₀ L s.heap (news ++ [(kS, seqObj "list" keys e), (a, seqObj "list" #[] e1)])) (hka : kS ≠ a) (hnk : ∀ p ∈ news, p.1 ≠ kS) (hna : ∀ p ∈ news, p.1 ≠ a)
    (hk : IntsAre keys.toList kz) (hlen : kz.length = vs.length) (h2 : 2 ≤ vs.length) (h64 : vs.length < 64) (hok : sortOk kz = true)
    (h : ∀ h' tk c, Fr h₀ L h' m → News h₀ L h' ((a, seqObj "list" ((sortIdx kz).map fun i => vs.getD i .none).toArray c) :: news) → P (.done (.ret .none)) { s with heap := h', toks := tk }) :
    wpAny (model prog w) A (ksk_end a false vs.toArray e1 (.ref kS) keys) P E s := by
  have hsz : keys.size = vs.length := by
    have h1 := hk.length
    rw [Array.length_toList] at h1
    omega
  have hzs : (keys.zip vs.toArray).size = vs.length := by rw [Array.size_zip, hsz, List.size_toArray, Nat.min_self]
  have nk := N (kS, seqObj "list" keys e) (List.mem_append_right _ (.head _))
  have na := N (a, seqObj "list" #[] e1) (List.mem_append_right _ (.tail _ (.head _)))
  have Nn : News h₀ L s.heap news := fun p hp => N p (List.mem_append_left _ hp)
  unfold ksk_end
  try dsimp only
  rw [if_neg (by decide)]
  rw [if_neg (by rw [List.size_toArray]; omega), if_neg (by rw [List.size_toArray]; omega)]
  rw [ksk_kind hk (by rw [hsz]; omega)]
  refine wpAny_bind (wpAny_pure ?_)
  have est : SortSt.mk' oneType' (if false = true then (keys.zip vs.toArray).reverse else keys.zip vs.toArray) #[] 7 none = kas_st oneType' (keys.zip vs.toArray) (List.toArray (List.range kz.length)) := by
    have e0 := kas_range (keys.zip vs.toArray)
    rw [hzs, ← hlen] at e0
    show SortSt.mk' oneType' (keys.zip vs.toArray) #[] 7 none = SortSt.mk' oneType' ((List.toArray (List.range kz.length)).map (kas_item (keys.zip vs.toArray))) #[] 7 none
    rw [e0]
  have run := kas_runs (prog := prog) (w := w) (A := A) (E := E) (κ := oneType') (it := keys.zip vs.toArray) (n := kz.length) (s := s) (Q := fun _ st' s' => s' = s ∧ arrOf st' = (runT (cmpK kz) (kas_sort kz.length)).map (kas_item (keys.zip vs.toArray)) ∧ (runT (cmpK kz) (kas_sort kz.length)).size = kz.length ∧ failedOf st' = none)
    (G := fun p s' => s' = s ∧ p = runT (cmpK kz) (kas_sort kz.length)) (by omega) (by omega) (fun p' st' s' a1 a2 a3 a4 => ⟨a4.1, by rw [a2, a4.2], by rw [← a4.2]; exact a1, a3⟩)
    (runT_wp (n := kz.length) (c := cmpK kz) (fun i j hi hj C hC => ?_) _ (by unfold sortOk at hok; simp only [Bool.and_eq_true] at hok; exact hok.1) ⟨rfl, rfl⟩)
  · rw [← est] at run
    refine wpAny_bind (wpAny_mono run ?_ fun _ _ e => e)
    rintro ⟨⟨⟩, st'⟩ s' ⟨rfl, har, hps, hf⟩
    try dsimp only at har hf
    have na1 : (s'.heap.update kS (Obj.mapSeq fun _ => (#[] : Array Value))).get? a = some (seqObj "list" #[] e1) := ((Heap.SameBut.update s'.heap kS (Obj.mapSeq fun _ => (#[] : Array Value))).2 a hka.symm).trans na.1
    have hout : (arrOf st').map (·.2) = ((sortIdx kz).map fun i => vs.getD i .none).toArray := by
      apply Array.toList_inj.mp
      rw [har, Array.map_map, Array.toList_map]
      refine List.map_congr_left fun i _ => ?_
      show (kas_item (keys.zip vs.toArray) i).2 = _
      by_cases hi : i < kz.length
      · exact (zip_at hk hlen hi).2
      · have hn : (keys.zip vs.toArray)[i]? = none := Array.getElem?_eq_none (by rw [hzs]; omega)
        have e3 : kas_item (keys.zip vs.toArray) i = (Value.none, Value.none) := by unfold kas_item; rw [Array.getD_eq_getD_getElem?, hn]; rfl
        rw [e3]
        have hv : vs[i]? = none := List.getElem?_eq_none (by omega)
        simp [hv]
    have hosz : (((sortIdx kz).map fun i => vs.getD i .none).toArray).size = vs.length := by
      rw [List.size_toArray, List.length_map]
      show (runT (cmpK kz) (kas_sort kz.length)).toList.length = _
      rw [Array.length_toList, hps, hlen]
    have key : ∀ out : Array Value, out.size = vs.length → ∀ Q : PySem.Fin → Shared → Prop, (∀ h' tk c, Fr h₀ L h' m → News h₀ L h' ((a, seqObj "list" out c) :: news) → Q (.done (.ret .none)) { s' with heap := h', toks := tk }) →
        wpAny (model prog w) A (do
          Builtin.List.listUpdate (.ref kS) fun _ => #[]
          letGo ((arrOf st').map (·.1)).toList (failedOf st').toList
          let touched := (← seqEpoch a) != e1
          Builtin.List.listUpdate (.ref a) fun _ => out
          if let some e := failedOf st' then rule "list.sort.comparison-raised"; throw e
          if touched then rule "list.sort.modified"; raiseError "ValueError" "list modified during sort"
          ret .none : Sem PySem.Fin) Q E s' := by
      intro out ho Q hq
      obtain ⟨c2, hc2⟩ : ∃ c2, ((s'.heap.update kS (Obj.mapSeq fun _ => (#[] : Array Value))).update a (Obj.mapSeq fun _ => out)).get? a = some (seqObj "list" out c2) := ⟨_, get?_update_seq na1 fun _ => out⟩
      have N2 := ksk_news (ksk_news Nn (Heap.SameBut.update s'.heap kS (Obj.mapSeq fun _ => (#[] : Array Value))) hnk) (Heap.SameBut.update (s'.heap.update kS (Obj.mapSeq fun _ => (#[] : Array Value))) a (Obj.mapSeq fun _ => out)) hna
      refine wpAny_bind (listUpdate_at nk.1 rfl ?_ (by rw [hsz, sizeLine_eq]; omega) (Nat.zero_le _))
      refine wpAny_bind (wpAny_letGo ?_)
      refine wpAny_bind (seqEpoch_at na1 rfl ?_)
      refine wpAny_bind (listUpdate_at na1 rfl ?_ (Nat.zero_le _) (by rw [ho, sizeLine_eq]; omega))
      rw [hf]
      simp only [bne_self_eq_false, Bool.false_eq_true, if_false]
      refine wpAny_pure (hq _ _ c2 (ksk_fr (ksk_fr F (Heap.SameBut.update s'.heap kS (Obj.mapSeq fun _ => (#[] : Array Value))) nk.2.1 nk.2.2) (Heap.SameBut.update _ a (Obj.mapSeq fun _ => out)) na.2.1 na.2.2) (fun p hp => ?_))
      rcases List.mem_cons.mp hp with rfl | hp
      · exact ⟨hc2, na.2⟩
      · exact N2 p hp
    unfold ksk_tail
    try dsimp only
    rw [hout]
    simp only [Bool.false_eq_true, if_false]
    exact key _ hosz _ fun h' tk c F' N' => h h' tk c F' N'
  · obtain ⟨⟨t, ht⟩, _⟩ := zip_at hk hlen hi
    obtain ⟨⟨u, hu⟩, _⟩ := zip_at hk hlen hj
    show wpAny (model prog w) A (keyLt' oneType' (kas_item (keys.zip vs.toArray) i).1 (kas_item (keys.zip vs.toArray) j).1) C _ s
    rw [ht, hu, keyLt'_oneType]
    exact oneLt_int hC

theorem sk_rest {f : Value} (F : Fr h₀ L s.heap m) (N : News h₀ L s.heap (news ++ [(kS, seqObj "list" #[] 0), (a, seqObj "list" #[] e1)])) (hka : kS ≠ a) (hnk : ∀ p ∈ news, p.1 ≠ kS) (hna : ∀ p ∈ news, p.1 ≠ a)
    (hlen : kz.length = vs.length) (h2 : 2 ≤ vs.length) (h64 : vs.length < 64) (hok : sortOk kz = true)
    (turn : ∀ (i : Nat) (v : Value) (k : Int), vs[i]? = some v → kz[i]? = some k → ∀ (h : Heap) (tk : Nat) (own : List (Addr × Obj)), Fr h₀ L h m → News h₀ L h (news ++ own) →
      wpAny (model prog w) A (call f [v]) (KskEnd h₀ L m (news ++ own) k { s with heap := h, toks := tk }) (fun _ _ => False) { s with heap := h, toks := tk })
    (h : ∀ h' tk c, Fr h₀ L h' m → News h₀ L h' ((a, seqObj "list" ((sortIdx kz).map fun i => vs.getD i .none).toArray c) :: news) → P (.done (.ret .none)) { s with heap := h', toks := tk }) :
    wpAny (model prog w) A (ksk_rest a f false vs.toArray e1 (.ref kS)) P E s := by
  unfold ksk_rest
  refine wpAny_bind (wpAny_rule ?_)
  rw [List.forIn_toArray]
  refine wpAny_bind (ksk_fold (fun i s' => ∃ h' tk kA e, s' = { s with heap := h', toks := tk } ∧ Fr h₀ L h' m ∧ News h₀ L h' (news ++ [(kS, seqObj "list" kA e), (a, seqObj "list" #[] e1)]) ∧ IntsAre kA.toList (kz.take i)) vs 0 s
    ⟨s.heap, s.toks, #[], 0, rfl, F, N, by simpa using IntsAre.nil⟩ ?step ?done)
  case step =>
    rintro j x s' hx ⟨h', tk, kA, e, rfl, F', N', hk⟩
    simp only [Nat.zero_add] at hk ⊢
    have hj : j < vs.length := (List.getElem?_eq_some_iff.mp hx).1
    have hkj : kz[j]? = some (kz[j]'(by omega)) := List.getElem?_eq_getElem (by omega)
    have hz : kA.size ≤ vs.length := by
      have h1 := hk.length
      rw [Array.length_toList, List.length_take] at h1
      omega
    refine wpAny_bind (wpAny_attempt (wpAny_mono (turn j x _ hx hkj h' tk _ F' N') (fun v s'' he => ?_) fun _ _ hF => hF.elim))
    obtain ⟨g, tk2, t2, rfl, rfl, F2, N2⟩ := he
    try dsimp only
    have nk := N2 (kS, seqObj "list" kA e) (List.mem_append_right _ (.head _))
    have na := N2 (a, seqObj "list" #[] e1) (List.mem_append_right _ (.tail _ (.head _)))
    have s1 := Heap.SameBut.update g kS (Obj.mapSeq (·.push (.int (kz[j]'(by omega)) t2)))
    obtain ⟨c2, hc2⟩ : ∃ c2, (g.update kS (Obj.mapSeq (·.push (.int (kz[j]'(by omega)) t2)))).get? kS = some (seqObj "list" (kA.push (.int (kz[j]'(by omega)) t2)) c2) := ⟨_, get?_update_seq nk.1 (·.push (.int (kz[j]'(by omega)) t2))⟩
    have ek : kz.take (j + 1) = kz.take j ++ [kz[j]'(by omega)] := by rw [List.take_add_one, hkj]; simp
    refine wpAny_bind (listUpdate_at nk.1 rfl ?_ (by rw [sizeLine_eq]; omega) (Nat.le_trans (Nat.le_of_eq (Array.size_push ..)) (by rw [sizeLine_eq]; omega)))
    refine wpAny_pure ⟨rfl, _, _, kA.push (.int (kz[j]'(by omega)) t2), c2, rfl, ksk_fr F2 s1 nk.2.1 nk.2.2, fun p hp => ?_, by rw [Array.toList_push, ek]; exact ksk_snoc hk⟩
    rcases List.mem_append.mp hp with hp | hp
    · exact ksk_news (fun q hq => N2 q (List.mem_append_left _ hq)) s1 hnk p hp
    · rcases List.mem_cons.mp hp with rfl | hp
      · exact ⟨hc2, nk.2⟩
      · rw [List.mem_singleton.mp hp]
        exact ⟨(s1.2 a hka.symm).trans na.1, na.2⟩
  case done =>
    rintro s' ⟨h', tk, kA, e, rfl, F', N', hk⟩
    have hk' : IntsAre kA.toList kz := by rw [List.take_of_length_le (by omega)] at hk; exact hk
    have nk := N' (kS, seqObj "list" kA e) (List.mem_append_right _ (.head _))
    try dsimp only
    refine wpAny_bind (listItems_at nk.1 rfl ?_)
    exact sk_end (s := { s with heap := h', toks := tk }) F' N' hka hnk hna hk' hlen h2 h64 hok fun h3 tk3 c F3 N3 => h h3 tk3 c F3 N3

theorem sk_sort {f : Value} {n : Nat} (F : Fr h₀ L s.heap m) (N : News h₀ L s.heap news) (ho : s.heap.get? a = some (seqObj "list" vs.toArray n)) (haL : a ≠ L) (ha0 : h₀.get? a = none) (hna : ∀ p ∈ news, p.1 ≠ a)
    (hlen : kz.length = vs.length) (h2 : 2 ≤ vs.length) (h64 : vs.length < 64) (hok : sortOk kz = true)
    (turn : ∀ (i : Nat) (v : Value) (k : Int), vs[i]? = some v → kz[i]? = some k → ∀ (h : Heap) (tk : Nat) (own : List (Addr × Obj)), Fr h₀ L h m → News h₀ L h (news ++ own) →
      wpAny (model prog w) A (call f [v]) (KskEnd h₀ L m (news ++ own) k { s with heap := h, toks := tk }) (fun _ _ => False) { s with heap := h, toks := tk })
    (h : ∀ h' tk c, Fr h₀ L h' m → News h₀ L h' ((a, seqObj "list" ((sortIdx kz).map fun i => vs.getD i .none).toArray c) :: news) → P (.done (.ret .none)) { s with heap := h', toks := tk }) :
    wpAny (model prog w) A (ksk_tree a f false) P E s := by
  have ha : a < s.heap.objs.size := Heap.lt_size ho
  have s1 := Heap.SameBut.update s.heap a (Obj.mapSeq fun _ => (#[] : Array Value))
  obtain ⟨e1, ho1⟩ : ∃ e1, (s.heap.update a (Obj.mapSeq fun _ => (#[] : Array Value))).get? a = some (seqObj "list" #[] e1) := ⟨_, get?_update_seq ho fun _ => #[]⟩
  have F1 := ksk_fr F s1 haL ha0
  have N1 := ksk_news N s1 hna
  have hkS : ((s.heap.update a (Obj.mapSeq fun _ => (#[] : Array Value))).push (seqObj "tuple" vs.toArray 0)).objs.size = s.heap.objs.size + 1 := by rw [size_push', Heap.size_update]
  have hLk : L < ((s.heap.update a (Obj.mapSeq fun _ => (#[] : Array Value))).push (seqObj "tuple" vs.toArray 0)).objs.size := (F1.push _).ns.lt
  unfold ksk_tree
  refine wpAny_bind (listItems_at ho rfl ?_)
  refine wpAny_bind (listUpdate_at ho rfl ?_ (by rw [List.size_toArray, sizeLine_eq]; omega) (Nat.zero_le _))
  refine wpAny_bind (seqEpoch_at ho1 rfl ?_)
  refine wpAny_bind (wpAny_newTuple ?_ (by show vs.length ≤ _; rw [sizeLine_eq]; omega))
  refine wpAny_bind (wpAny_newList ?_ (Nat.zero_le _))
  refine wpAny_holding ?_
  refine sk_rest (s := { s with heap := ((s.heap.update a (Obj.mapSeq fun _ => (#[] : Array Value))).push (seqObj "tuple" vs.toArray 0)).push (seqObj "list" #[] 0) }) (kS := ((s.heap.update a (Obj.mapSeq fun _ => (#[] : Array Value))).push (seqObj "tuple" vs.toArray 0)).objs.size)
    ((F1.push _).push _) (fun p hp => ?_) (by rw [hkS]; exact Nat.ne_of_gt (Nat.lt_succ_of_lt ha)) (fun p hp => by rw [hkS]; exact Nat.ne_of_lt (Nat.lt_succ_of_lt (Heap.lt_size (N p hp).1))) hna hlen h2 h64 hok turn h
  rcases List.mem_append.mp hp with hp | hp
  · exact ⟨Heap.get?_push_of_some _ (Heap.get?_push_of_some _ (N1 p hp).1), (N1 p hp).2⟩
  · rcases List.mem_cons.mp hp with rfl | hp
    · exact ⟨Heap.get?_push_size _ rfl, Nat.ne_of_gt hLk, Heap.get?_none_of_le (Nat.le_trans F.above (Nat.le_of_lt hLk))⟩
    · rw [List.mem_singleton.mp hp]
      exact ⟨Heap.get?_push_of_some _ (Heap.get?_push_of_some _ ho1), haL, ha0⟩
end

section
variable {prog : Program} {w : World} {A : Around} {E : Value → Shared → Prop} {s : Shared}
theorem iadd_range {R : Result → Shared → Prop} {r S : Addr} {a b c : Int} {t u v : Tok} {n : Nat} (hh : A.handled = none) (hr : IsRange s.heap r a b c t u v) (hsmall : Builtin.Range.small a b c = true)
    (hn : Builtin.Range.rangeSize a b c = n) (hlen : n ≤ 2 ^ 24) (hS : s.heap.get? S = some { cls := .type "list", data := .seq #[] 0 })
    (hR : ∀ h' tk acc' c', (∀ b o, b ≠ S → s.heap.get? b = some o → h'.get? b = some o) → h'.get? S = some { cls := .type "list", dict := none, data := .seq acc' c', slots := #[] } →
      ItemsOf (fun i v => ∃ t, v = .int (a + i * c) t) acc' n → R (.ok (.ret (.ref S))) { s with heap := h', toks := tk }) :
    codeAny (model prog w) A (.builtin "list.__iadd__" ⟨[.ref S, .ref r], []⟩) R s := by
  refine codeAny_builtin F.entry_list_iadd ?_
  rw [Around.under_plainId F.plain_list_iadd _]
  show wpAny _ A.in1 (Builtin.List.listExtendWith (.ref S) (.ref r) (.ref S)) _ _ _
  exact wpAny_extend_range (R := R) hh hr hsmall hn hlen S _ _ hS hR
theorem collect_rangeR {r : Addr} {a b c : Int} {t u v : Tok} {n : Nat} {Q : List Value → Shared → Prop} (hh : A.handled = none) (hr : IsRange s.heap r a b c t u v) (hsmall : Builtin.Range.small a b c = true)
    (hn : Builtin.Range.rangeSize a b c = n) (hlen : n ≤ 2 ^ 24)
    (hQ : ∀ h' tk vs, (∀ b o, s.heap.get? b = some o → h'.get? b = some o) → IntsAre vs ((List.range n).map fun i : Nat => a + (i : Int) * c) → Q vs { s with heap := h', toks := tk }) :
    wpAny (model prog w) A (collect (.ref r)) Q E s := by
  unfold collect
  refine wpAny_bind (wpAny_runValue (codeAny_builtin F.entry_proto_collect ?_))
  rw [Around.under_plainId F.plain_proto_collect _]
  show wpAny _ A.in1 (newList [] >>= fun l => again (.builtin "list.__iadd__" ⟨[l, .ref r], []⟩)) _ _ s
  refine wpAny_bind (wpAny_newObj_type ?_)
  refine wpAny_pure ⟨plainId_quiet F.plain_list_iadd _, iadd_range (s := { s with heap := s.heap.push { cls := .type "list", data := .seq ([] : List Value).toArray } }) (n := n) hh (Heap.get?_push_of_some _ hr) hsmall hn hlen (Heap.get?_push_size _ rfl) fun h' tk acc' c' hk hS' hacc => ?_⟩
  show wpAny _ A (load s.heap.objs.size >>= _) _ _ _
  refine wpAny_bind (wpAny_load hS' ?_)
  refine wpAny_pure (hQ h' tk acc'.toList (fun b o e => hk b o (Nat.ne_of_lt (Heap.lt_size e)) (Heap.get?_push_of_some _ e)) ?_)
  have hz : acc'.size = n := hacc.1
  refine ints_of_get _ _ (by simp [hz]) fun i v hv => ?_
  rw [Array.getElem?_toList] at hv
  obtain ⟨t', rfl⟩ := hacc.2 i v hv
  have hi : i < n := by
    have := (Array.getElem?_eq_some_iff.mp hv).1
    omega
  exact ⟨t', by simp [hi]⟩

variable {h₀ : Heap} {L l : Addr} {m : Str → Option Value} {news : List (Addr × Obj)} {Q : Value → Shared → Prop}

theorem sk_sorted {r lam : Addr} {a b c : Int} {t u v : Tok} {n : Nat} (kz : List Int) (hh : A.handled = none) (F : Fr h₀ L s.heap m) (N : News h₀ L s.heap news) (hr : IsRange s.heap r a b c t u v) (hsmall : Builtin.Range.small a b c = true)
    (hn : Builtin.Range.rangeSize a b c = n) (hlen : kz.length = n) (h2 : 2 ≤ n) (h64 : n < 64) (hok : sortOk kz = true)
    (turn : ∀ (i : Nat) (t : Tok) (k : Int), i < n → kz[i]? = some k → ∀ (h : Heap) (tk : Nat) (own : List (Addr × Obj)), Fr h₀ L h m → News h₀ L h (news ++ own) →
      wpAny (model prog w) A.in1.in1 (call (.ref lam) [.int (a + (i : Int) * c) t]) (KskEnd h₀ L m (news ++ own) k { s with heap := h, toks := tk }) (fun _ _ => False) { s with heap := h, toks := tk })
    (h : ∀ D h' tk vs c', Fr h₀ L h' m → News h₀ L h' ((D, listOf vs.toArray c') :: news) → (∀ q ∈ news, q.1 < D) → IntsAre vs ((sortIdx kz).map fun i : Nat => a + (i : Int) * c) → Q (.ref D) { s with heap := h', toks := tk }) :
    wpAny (model prog w) A (call (.builtin "sorted") [.ref r] [(Str.ofString "key", .ref lam)]) Q E s := by
  refine call_function_entry_kw kind_sorted plain_sorted entry_sorted (ksk_s1 _ _) ?_
  unfold Builtin.«sorted»
  refine wpAny_bind (m := checkCount "sorted" 1 1 _) (wpAny_pure ?_)
  refine wpAny_bind (collect_rangeR hh hr hsmall hn (by omega) fun h1 tk1 vs hk1 hI => ?_)
  have hvl : vs.length = n := by rw [hI.length]; simp
  refine wpAny_bind (wpAny_newList ?_ (by rw [hvl, sizeLine_eq]; omega))
  have F1 : Fr h₀ L h1 m := F.kept hk1
  have N1 : News h₀ L h1 news := N.grown hk1
  have hL : L < h1.objs.size := F1.ns.lt
  have hoL : (h1.push (seqObj "list" vs.toArray 0)).get? h1.objs.size = some (seqObj "list" vs.toArray 0) := Heap.get?_push_size _ rfl
  show wpAny _ _ _ _ _ { s with heap := h1.push (seqObj "list" vs.toArray 0), toks := tk1 }
  refine wpAny_bind (wpAny_holding (wpAny_call_entry_kw slot_list_sort ⟨_, hoL, rfl⟩ entry_list_sort ?body (ksk_l1 _ _)))
  case body =>
    show wpAny (model prog w) A.in1.in1 (Builtin.«list.sort» ⟨[.ref h1.objs.size], [(Str.ofString "key", .ref lam)]⟩) _ _ _
    rw [ksk_t1 lam h1.objs.size]
    refine sk_sort (s := { s with heap := h1.push (seqObj "list" vs.toArray 0), toks := tk1 }) (kz := kz)
      (F1.push _) (fun p hp => ⟨Heap.get?_push_of_some _ (N1 p hp).1, (N1 p hp).2⟩) hoL (Nat.ne_of_gt hL) (Heap.get?_none_of_le (Nat.le_trans F1.above (Nat.le_of_lt hL)))
      (fun p hp => Nat.ne_of_lt (Heap.lt_size (N1 p hp).1)) (by omega) (by omega) (by omega) hok (fun i v k hv hk g tk own F' N' => ?_) fun h' tk c' F' N' => ⟨_, rfl, ?_⟩
    · have hi : i < n := by
        have := (List.getElem?_eq_some_iff.mp hv).1
        omega
      obtain ⟨t', ht'⟩ := hI.get i (a + (i : Int) * c) (by simp [hi])
      rw [ht'] at hv
      cases hv
      exact turn i t' k hi hk g tk own F' N'
    · refine wpAny_pure ⟨_, rfl, h _ h' tk _ c' F' N' (fun q hq => Heap.lt_size (N1 q hq).1) ?_⟩
      refine ints_of_get _ _ (by simp) fun i v hv => ?_
      rw [List.getElem?_map, Option.map_eq_some_iff] at hv
      obtain ⟨j, hj, rfl⟩ := hv
      have hjn : j < n := by
        unfold sortOk at hok
        simp only [Bool.and_eq_true, List.all_eq_true] at hok
        have := Nat.blt_eq.mp (hok.2 j (List.mem_of_getElem? hj))
        omega
      obtain ⟨t', ht'⟩ := hI.get j (a + (j : Int) * c) (by simp [hjn])
      exact ⟨t', by simp [hj, ht', List.getD_eq_getElem?_getD]⟩
end

theorem sortC (w : World) (p : Program) (loose : List Str) (mean : ExcName → Option Value) (mg mb : Str → Option Value)
    (dp un : Nat) (gd : Option (List Code)) (cn : Str) (cs : Scope) (a : Addr) (ccd : Value) (cl : List (Str × Addr)) (outer : List Env) (A₀ : Around) (base h₀ : Heap) (L : Addr) (m : Str → Option Value) (s : Shared) (Q E : Value → Shared → Prop)
    (news : List (Addr × Obj)) (r lam : Addr) (ra rb rc : Int) (t u v : Tok) (n : Nat) (kz : List Int)
    (core : List (Addr × Obj)) (hcore : ∀ q ∈ core, q ∈ news) (dom : Int → Prop) (kv : Int → Value → Prop) (hkey : KeyC w p loose mean mg mb lam core dom kv)
    (hdom : ∀ i : Nat, i < n → dom (ra + (i : Int) * rc)) (hkv : ∀ (i : Nat) x, i < n → kv (ra + (i : Int) * rc) x → ∃ t, x = .int (kz.getD i 0) t)
    (hr : IsRange s.heap r ra rb rc t u v) (hsmall : Builtin.Range.small ra rb rc = true) (hn : Builtin.Range.rangeSize ra rb rc = n) (hlen : kz.length = n) (h2 : 2 ≤ n) (h64 : n < 64) (hok : sortOk kz = true)
    (B : Below A₀ base outer h₀) (F : Fr h₀ L s.heap m) (X : (hd.heap_39 w.params).In h₀) (N : News h₀ L s.heap news) (T : Top p loose mean mg mb h₀) (hk : cs.kind = .function)
    (hdp : dp + 6 < recursionLimit) (hu : un + 60 < cLine)
    (hret : ∀ D h' tk vs c', Fr h₀ L h' m → News h₀ L h' ((D, listOf vs.toArray c') :: news) → (∀ q ∈ news, q.1 < D) → IntsAre vs ((sortIdx kz).map fun i : Nat => ra + (i : Int) * rc) → Q (.ref D) { s with heap := h', toks := tk }) :
    wpAny (model prog w) (ktrTop dp un gd cn cs L a ccd cl outer) (call (.builtin "sorted") [.ref r] [(Str.ofString "key", .ref lam)]) Q E s := by
  refine sk_sorted kz rfl F N hr hsmall hn hlen h2 h64 hok (fun i t' k hi hkz g tk own F' N' => ?_) hret
  refine hkey _ t' (hdom i hi) dp (un + 1 + 1) gd cn cs a ccd cl outer A₀ base h₀ L m { s with heap := g, toks := tk } _ _ (news ++ own) B F' X N' T hk (fun q hq => List.mem_append_left _ (hcore q hq)) (by omega) (by omega) ?_
  intro x h' tk' hx F2 N2
  obtain ⟨t2, rfl⟩ := hkv i x hi hx
  refine ⟨h', tk', t2, rfl, ?_, F2, N2⟩
  have : kz.getD i 0 = k := by simp [List.getD_eq_getElem?_getD, hkz]
  rw [this]
def topDef : Stmt := (prog.main.body.drop 13).headD (.Pass ⟨0, 0, 0, 0⟩)
def lawBody : List Stmt := match topDef with | .FunctionDef _ _ b _ _ _ _ _ _ _ => b | _ => []
def lawScope : Scope := match topDef with | .FunctionDef _ _ _ _ _ _ sc _ _ _ => sc | _ => default
abbrev lawCl (L : Addr) : List (Str × Addr) := [(Str.ofString "readings", L + 1 + 1 + 1 + 1 + 1 + 1 + 1), (Str.ofString "places", L + 1 + 1 + 1 + 1 + 1 + 1), (Str.ofString "hues", L + 1 + 1 + 1 + 1 + 1), (Str.ofString "word", L + 1 + 1 + 1 + 1), (Str.ofString "step", L + 1 + 1 + 1), (Str.ofString "size", L + 1 + 1), (Str.ofString "numbers", L + 1)]
def plAt (sz st b k : Nat) : Nat := (b + k * st) % sz
def plL (sz st b : Nat) : List Int := (List.range sz).map fun k => ((plAt sz st b k : Nat) : Int)
/-- what the first four lines leave: a size, a step, a place to begin at -/
def Okp (sz st b : Nat) : Prop := (sz = 4 ∨ sz = 8 ∨ sz = 16) ∧ 0 < st ∧ st < sz ∧ b < sz
theorem news_sub {h₀ h : Heap} {L : Addr} {a b : List (Addr × Obj)} (N : News h₀ L h a) (hs : ∀ q ∈ b, q ∈ a) : News h₀ L h b := fun p hp => N p (hs p hp)
theorem news_d34 {h₀ h : Heap} {L : Addr} {a b c d : Addr × Obj} {l : List (Addr × Obj)} (N : News h₀ L h (a :: b :: c :: d :: l)) : News h₀ L h (a :: b :: l) := news_sub N (List.forall_mem_cons.mpr ⟨List.mem_cons_self .., List.forall_mem_cons.mpr ⟨List.mem_cons_of_mem _ (List.mem_cons_self ..), fun q hq => List.mem_cons_of_mem _ (List.mem_cons_of_mem _ (List.mem_cons_of_mem _ (List.mem_cons_of_mem _ hq)))⟩⟩)
theorem fmod_lt (a : Int) (n : Nat) (h : 0 < n) : (a.fmod (n : Int)).toNat < n := by
  have g1 := Int.fmod_nonneg_of_pos (a := a) (b := (n : Int)) (by omega)
  have g2 := Int.fmod_lt_of_pos a (b := (n : Int)) (by omega)
  omega
theorem places_eq (a : Int) (sz st : Nat) (h : 0 < sz) : (rangeKs 0 ((sz : Int) - 0).toNat).map (fun k => (a + k * (st : Int)).fmod (sz : Int)) = plL sz st (a.fmod (sz : Int)).toNat := by
  have e : ((sz : Int) - 0).toNat = sz := by omega
  rw [e]
  unfold rangeKs plL
  rw [List.map_map]
  refine List.map_congr_left fun k _ => ?_
  show (a + (0 + (k : Int)) * (st : Int)).fmod (sz : Int) = ((plAt sz st (a.fmod (sz : Int)).toNat k : Nat) : Int)
  unfold plAt
  have g1 := Int.fmod_nonneg_of_pos (a := a) (b := (sz : Int)) (by omega)
  rw [Int.natCast_emod, Int.natCast_add, Int.natCast_mul, Int.toNat_of_nonneg g1, Int.fmod_eq_emod_of_nonneg _ (by omega), Int.fmod_eq_emod_of_nonneg _ (by omega), Int.zero_add, Int.emod_add_emod]
theorem data_eq {o : Obj} {a b : Int} {t : Tok} (h : o.data = .cell (some (.int a t))) (e : a = b) : o.data = .cell (some (.int b t)) := e ▸ h
theorem news_tl {h₀ h : Heap} {L : Addr} {a : Addr × Obj} {l : List (Addr × Obj)} (N : News h₀ L h (a :: l)) : News h₀ L h l := fun p hp => N p (List.mem_cons_of_mem _ hp)
def OffC (x L : Nat) : Prop := x ≠ 87 ∧ x ≠ L + 1 ∧ x ≠ L + 1 + 1 ∧ x ≠ L + 1 + 1 + 1 ∧ x ≠ L + 1 + 1 + 1 + 1 ∧ x ≠ L + 1 + 1 + 1 + 1 + 1 ∧ x ≠ L + 1 + 1 + 1 + 1 + 1 + 1 ∧ x ≠ L + 1 + 1 + 1 + 1 + 1 + 1 + 1
theorem news_rot {h₀ h : Heap} {L : Addr} {a b c : Addr × Obj} {l : List (Addr × Obj)} (N : News h₀ L h (b :: a :: (l ++ [c]))) : News h₀ L h (a :: b :: c :: l) := fun p hp => by
  rcases List.mem_cons.mp hp with rfl | hp
  · exact N _ (List.mem_cons_of_mem _ (List.mem_cons_self ..))
  · rcases List.mem_cons.mp hp with rfl | hp
    · exact N _ (List.mem_cons_self ..)
    · rcases List.mem_cons.mp hp with rfl | hp
      · exact N _ (List.mem_cons_of_mem _ (List.mem_cons_of_mem _ (List.mem_append_right _ (List.mem_singleton.mpr rfl))))
      · exact N _ (List.mem_cons_of_mem _ (List.mem_cons_of_mem _ (List.mem_append_left _ hp)))
theorem size_of (a : Int) : ∃ sz : Nat, (sz = 4 ∨ sz = 8 ∨ sz = 16) ∧ (4 : Int) * 2 ^ (a.fmod 3).toNat = (sz : Int) := by
  have g1 := Int.fmod_nonneg_of_pos (a := a) (b := 3) (by decide)
  have g2 := Int.fmod_lt_of_pos a (b := 3) (by decide)
  obtain ⟨x, hx, hx3⟩ : ∃ x : Nat, (a.fmod 3).toNat = x ∧ x < 3 := ⟨_, rfl, by omega⟩
  rw [hx]
  have : x = 0 ∨ x = 1 ∨ x = 2 := by omega
  rcases this with rfl | rfl | rfl
  · exact ⟨4, by decide, by decide⟩
  · exact ⟨8, by decide, by decide⟩
  · exact ⟨16, by decide, by decide⟩
theorem step_of (a : Int) (sz : Nat) (h : 4 ≤ sz) : ∃ st : Nat, 0 < st ∧ st < sz ∧ 1 + (a.fdiv 3).fmod ((sz : Int) - 1) = (st : Int) := by
  have g1 := Int.fmod_nonneg_of_pos (a := a.fdiv 3) (b := (sz : Int) - 1) (by omega)
  have g2 := Int.fmod_lt_of_pos (a.fdiv 3) (b := (sz : Int) - 1) (by omega)
  exact ⟨(1 + (a.fdiv 3).fmod ((sz : Int) - 1)).toNat, by omega, by omega, by omega⟩
section
local macro_rules | `(tactic| mul_fits) => `(tactic| exact PySem.IntMulOk.of_right (by assumption))
local macro_rules | `(tactic| walk_at "execs cons") => `(tactic| refine Stop.intro ?_)
local macro_rules | `(tactic| walk_at "binaryOp Add ref ref") => `(tactic| refine Stop.intro ?_)
theorem lawA (w : World) (p : Program) (loose : List Str) (mean : ExcName → Option Value) (mg mb : Str → Option Value)
    (dp un : Nat) (gd : Option (List Code)) (fa : Addr) (A₀ : Around) (base h₀ : Heap) (L : Addr) (s : Shared) (Q : Flow → Shared → Prop) (E : Value → Shared → Prop)
    (B : Below A₀ base [] h₀) (X : (hd.heap_39 w.params).In h₀) (C : CodeHd h₀ 89 87) (T : Top p loose mean mg mb h₀) (hdp : dp + 20 < recursionLimit) (hu : un + 200 < cLine) (hL87 : @LT.lt Nat _ 87 L)
    (sl : Addr) (vs : List Value) (ns : List Int) (hsl : h₀.IsList sl vs.toArray) (hI : IntsAre vs ns) (hlen : ns.length ≤ 63)
    (o1 o2 o3 o4 o5 o6 o7 : Obj) (d1 : o1.data = .cell none) (d2 : o2.data = .cell none) (d3 : o3.data = .cell none) (d4 : o4.data = .cell none) (d5 : o5.data = .cell none) (d6 : o6.data = .cell none) (d7 : o7.data = .cell none)
    (m : Str → Option Value) (hm : m = fun y => if y = Str.ofString "script" then some (Value.ref sl) else none)
    (F : Fr h₀ L s.heap m) (N : News h₀ L s.heap [(L + 1 + 1 + 1 + 1 + 1 + 1 + 1, o7), (L + 1 + 1 + 1 + 1 + 1 + 1, o6), (L + 1 + 1 + 1 + 1 + 1, o5), (L + 1 + 1 + 1 + 1, o4), (L + 1 + 1 + 1, o3), (L + 1 + 1, o2), (L + 1, o1), (87, tabObj #[])])
    (cont : ∀ h' tk' nl pl nvs nn pvs pn ns4 sz st b t2 t3 o1 o2 o3 o6, Okp sz st b → IntsAre nvs ns4 → ns4.length = 4 → IntsAre pvs (plL sz st b) → o1.data = .cell (some (.ref nl)) → o2.data = .cell (some (.int sz t2)) → o3.data = .cell (some (.int st t3)) → o6.data = .cell (some (.ref pl)) → OffC pl L → OffC nl L → @Ne Nat pl nl →
      Fr h₀ L h' m → News h₀ L h' [(pl, listOf (List.toArray pvs) pn), (nl, listOf (List.toArray nvs) nn), (L + 1 + 1 + 1 + 1 + 1 + 1 + 1, o7), (L + 1 + 1 + 1 + 1 + 1 + 1, o6), (L + 1 + 1 + 1 + 1 + 1, o5), (L + 1 + 1 + 1 + 1, o4), (L + 1 + 1 + 1, o3), (L + 1 + 1, o2), (L + 1, o1), (87, tabObj #[])] → wpAny (model prog w) (ktrTop dp un gd "law" lawScope L fa (.ref 89) (lawCl L) []) (execs (lawBody.drop 4) (envX "law" lawScope L fa (.ref 89) (lawCl L))) Q E { s with heap := h', toks := tk' }) :
    wpAny (model prog w) (ktrTop dp un gd "law" lawScope L fa (.ref 89) (lawCl L) []) (execs lawBody (envX "law" lawScope L fa (.ref 89) (lawCl L))) Q E s := by
  subst hm
  conv in (execs _ _) => (arg 1; whnf)
  refine wpAny_execs_cons ?_
  k_steps
  refine Stop.go ?_
  rename Fr _ _ _ _ => F1
  rename News _ _ _ _ => N1
  with_unfolding_all refine' kmk_add_ints (ns := ns) (ms := [7, 2, 9, 13]) F1 N1 (hsl.at fun o e => F1.keep sl o e) ⟨_, (N1 _ (List.mem_cons_self ..)).1, rfl, _, rfl⟩ hI (.cons _ _ (.cons _ _ (.cons _ _ (.cons _ _ .nil)))) ?_ ?sz
  case sz => simp only [List.length_cons, List.length_nil, PySem.sizeLine_eq]; omega
  intro D us h1 F2 N2 l1 hI2
  clear F1 N1
  dsimp only
  k_lt l1
  k_steps
  refine Stop.go (wpAny_execs_cons ?_)
  dsimp only
  rename Fr _ _ _ _ => F3
  rename News _ _ _ _ => N3
  rename IntsAre _ (List.take 4 _) => hI4
  have hl4 : (List.take 4 (ns ++ [7, 2, 9, 13])).length = 4 := by simp
  generalize List.take 4 (ns ++ [7, 2, 9, 13]) = ns4 at *
  k_steps
  refine Stop.go (wpAny_execs_cons ?_)
  dsimp only
  obtain ⟨sz, hsz, hsze⟩ := size_of (ns4.getD (Int.toNat 0) 0)
  rename (_ = Data.cell (some (Value.int _ _))) => dS
  replace dS := data_eq dS hsze
  clear hsze
  have hs4 : (4 : Int) ≤ (sz : Int) := by omega
  have hs16 : (sz : Int) ≤ 16 := by omega
  k_steps
  refine Stop.go (wpAny_execs_cons ?_)
  dsimp only
  obtain ⟨st, hst0, hst1, hste⟩ := step_of (ns4.getD (Int.toNat 0) 0) sz (by omega)
  have hbits : Builtin.Int.intBits (st : Int) ≤ 64 := PySem.intBits_le_64 (by omega) (by omega)
  rename (_ = Data.cell (some (Value.int _ _))) => dT
  replace dT := data_eq dT hste
  clear hste
  k_steps
  refine Stop.go ?_
  dsimp only
  rename IntsAre _ (List.map _ _) => hP8
  rw [places_eq _ _ _ (by omega)] at hP8
  rename Fr _ _ _ _ => F9
  rename News _ _ _ _ => N9
  rename IntsAre _ ns4 => hI4
  with_unfolding_all refine' cont _ _ _ _ _ _ _ _ _ sz st _ _ _ _ _ _ _ ⟨hsz, hst0, hst1, ?hb⟩ hI4 hl4 hP8 ?e1 dS dT ?e6 ?offp ?offn ?offq F9 (news_d34 N9)
  case e1 => assumption
  case e6 => assumption
  case offp => exact ⟨by omega, by omega, by omega, by omega, by omega, by omega, by omega, by omega⟩
  case offn => exact ⟨by omega, by omega, by omega, by omega, by omega, by omega, by omega, by omega⟩
  case offq => omega
  case hb => exact fmod_lt _ _ (by omega)
end
theorem fr16_dec : (∀ p < 4, fr p 4 = fr (p * 4) 16) ∧ (∀ p < 8, fr p 8 = fr (p * 2) 16) := by decide +kernel
theorem add16_dec : ∀ a < 16, ∀ b < 16, Float64.add (fr a 16) (fr b 16) = fr (a + b) 16 := by decide +kernel
theorem lt16_dec : ∀ a < 16, ∀ b < 16, flt (fr a 16) (fr b 16) = decide (a < b) := by decide +kernel
theorem self16_dec : ∀ a < 16, (Float64.cmp (fr a 16) (fr a 16) == some Ordering.eq) = true := by decide +kernel
theorem self4_dec : ∀ x < 4, (Float64.cmp (fr (x + 1) 4) (fr (x + 1) 4) == some Ordering.eq) = true := by decide +kernel
/-- a place in sixteenths -/
def up (sz p : Nat) : Nat := p * (16 / sz)
theorem fr_up {sz p : Nat} (h : sz = 4 ∨ sz = 8 ∨ sz = 16) (hp : p < sz) : fr p sz = fr (up sz p) 16 ∧ up sz p < 16 := by
  rcases h with rfl | rfl | rfl
  · exact ⟨fr16_dec.1 p hp, by unfold up; omega⟩
  · exact ⟨fr16_dec.2 p hp, by unfold up; omega⟩
  · exact ⟨by unfold up; simp, by unfold up; omega⟩
theorem fr_lt {sz p q : Nat} (h : sz = 4 ∨ sz = 8 ∨ sz = 16) (hp : p < sz) (hq : q < sz) : flt (fr p sz) (fr q sz) = decide (p < q) := by
  obtain ⟨e1, l1⟩ := fr_up h hp
  obtain ⟨e2, l2⟩ := fr_up h hq
  rw [e1, e2, lt16_dec _ l1 _ l2]
  rcases h with rfl | rfl | rfl <;> (unfold up; congr 1; apply propext; omega)
theorem fr_self {sz p : Nat} (h : sz = 4 ∨ sz = 8 ∨ sz = 16) (hp : p < sz) : (Float64.cmp (fr p sz) (fr p sz) == some Ordering.eq) = true := by
  obtain ⟨e1, l1⟩ := fr_up h hp
  rw [e1]
  exact self16_dec _ l1
theorem plAt_lt {sz st b k : Nat} (h : 0 < sz) : plAt sz st b k < sz := Nat.mod_lt _ h
theorem plAt_succ {sz st b k : Nat} : plAt sz st b (k + 1) = (plAt sz st b k + st) % sz := by
  unfold plAt
  rw [Nat.mod_add_mod, Nat.succ_mul]
  congr 1
  omega
theorem plL_get {sz st b k : Nat} (hk : k < sz) : (plL sz st b).getD k 0 = ((plAt sz st b k : Nat) : Int) := by
  unfold plL
  simp [List.getD_eq_getElem?_getD, hk]
theorem plL_len {sz st b : Nat} : (plL sz st b).length = sz := by unfold plL; simp
theorem plL_mem {sz st b : Nat} (h : 0 < sz) {q : Int} (hq : q ∈ plL sz st b) : 0 ≤ q ∧ q < sz := by
  unfold plL at hq
  obtain ⟨k, _, rfl⟩ := List.mem_map.mp hq
  have := plAt_lt (sz := sz) (st := st) (b := b) (k := k) h
  omega
theorem hue_ok {sz st b : Nat} (h : Okp sz st b) (kn x y : Nat) (hk : kn < sz) (hx : x < 4) (hy : y < 4) : colOk (hueAt (plL sz st b) sz st kn) (fr (x + 1) 4) (fr (y + 1) 4) (fr ((plL sz st b).getD kn 0).toNat sz) = true := by
  obtain ⟨hsz, h0, h1, hb⟩ := h
  have hs : 0 < sz := by omega
  rw [plL_get hk, Int.toNat_natCast]
  cases kn with
  | zero =>
    show colOk (fr ((plL sz st b).getD 0 0).toNat sz) _ _ _ = true
    rw [plL_get hk, Int.toNat_natCast]
    obtain ⟨e1, l1⟩ := fr_up hsz (plAt_lt (sz := sz) (st := st) (b := b) (k := 0) hs)
    rw [e1]
    have := col1 (up sz (plAt sz st b 0)) (by omega) x hx y hy
    rw [Nat.mod_eq_of_lt l1] at this
    exact this
  | succ j =>
    show colOk (Float64.add (fr ((plL sz st b).getD j 0).toNat sz) (fr st sz)) _ _ _ = true
    rw [plL_get (by omega), Int.toNat_natCast, plAt_succ]
    have hp := plAt_lt (sz := sz) (st := st) (b := b) (k := j) hs
    generalize plAt sz st b j = p at hp
    obtain ⟨e1, l1⟩ := fr_up hsz hp
    obtain ⟨e2, l2⟩ := fr_up hsz h1
    obtain ⟨e3, l3⟩ := fr_up hsz (Nat.mod_lt (p + st) hs)
    rw [e1, e2, e3, add16_dec _ l1 _ l2]
    have := col1 (up sz p + up sz st) (by omega) x hx y hy
    have e4 : (up sz p + up sz st) % 16 = up sz ((p + st) % sz) := by
      rcases hsz with rfl | rfl | rfl <;> (unfold up; omega)
    rw [e4] at this
    exact this
def huL (sz st b : Nat) : List UInt64 := (plL sz st b).map fun q => fr q.toNat sz
theorem news_bd {h₀ h : Heap} {L : Addr} {a b c d : Addr × Obj} {l : List (Addr × Obj)} (N : News h₀ L h (a :: b :: c :: d :: l)) : News h₀ L h (b :: d :: l) := news_sub N (List.forall_mem_cons.mpr ⟨List.mem_cons_of_mem _ (List.mem_cons_self ..), List.forall_mem_cons.mpr ⟨List.mem_cons_of_mem _ (List.mem_cons_of_mem _ (List.mem_cons_of_mem _ (List.mem_cons_self ..))), fun _ hq => List.mem_cons_of_mem _ (List.mem_cons_of_mem _ (List.mem_cons_of_mem _ (List.mem_cons_of_mem _ hq)))⟩⟩)
theorem floats_len {vs : List Value} {bs : List UInt64} (h : Flt.FloatsAre vs bs) : vs.length = bs.length := by
  induction h with
  | nil => rfl
  | cons _ _ _ ih => simp [ih]
section
local macro_rules | `(tactic| walk_at "execs cons") => `(tactic| refine Stop.intro ?_)
local macro_rules | `(tactic| walk_at "call ref") => `(tactic| refine Stop.intro ?_)
local macro_rules | `(tactic| walk_at "compareOp Eq ref ref") => `(tactic| refine Stop.intro ?_)
local macro_rules | `(tactic| walk_at "ite") => `(tactic| (k_closed; k_dflt (first | refine ite_pos (by decide +kernel) ?_ | refine ite_neg (by decide +kernel) ?_)))
theorem lawB1 (w : World) (p : Program) (loose : List Str) (mean : ExcName → Option Value) (mg mb : Str → Option Value)
    (dp un : Nat) (gd : Option (List Code)) (fa : Addr) (A₀ : Around) (base h₀ : Heap) (L : Addr) (s : Shared) (Q : Flow → Shared → Prop) (E : Value → Shared → Prop)
    (B : Below A₀ base [] h₀) (X : (hd.heap_39 w.params).In h₀) (C : CodeHd h₀ 89 87) (T : Top p loose mean mg mb h₀) (hdp : dp + 20 < recursionLimit) (hu : un + 200 < cLine) (hL87 : @LT.lt Nat _ 87 L)
    (m : Str → Option Value) (nl pl : Addr) (nvs pvs : List Value) (nn pn : Nat) (ns4 : List Int) (sz st b : Nat) (t2 t3 : Tok) (o1 o2 o3 o4 o5 o6 o7 : Obj) (hok : Okp sz st b) (hnv : IntsAre nvs ns4) (hn4 : ns4.length = 4) (hpv : IntsAre pvs (plL sz st b))
    (d1 : o1.data = .cell (some (.ref nl))) (d2 : o2.data = .cell (some (.int sz t2))) (d3 : o3.data = .cell (some (.int st t3))) (d5 : o5.data = .cell none) (d6 : o6.data = .cell (some (.ref pl))) (ofp : OffC pl L) (ofn : OffC nl L) (onp : @Ne Nat pl nl)
    (F : Fr h₀ L s.heap m) (N : News h₀ L s.heap [(pl, listOf (List.toArray pvs) pn), (nl, listOf (List.toArray nvs) nn), (L + 1 + 1 + 1 + 1 + 1 + 1 + 1, o7), (L + 1 + 1 + 1 + 1 + 1 + 1, o6), (L + 1 + 1 + 1 + 1 + 1, o5), (L + 1 + 1 + 1 + 1, o4), (L + 1 + 1 + 1, o3), (L + 1 + 1, o2), (L + 1, o1), (87, tabObj #[])])
    (cont : ∀ h' tk' hl fvs fn o5, Flt.FloatsAre fvs (huL sz st b) → o5.data = .cell (some (.ref hl)) → OffC hl L → @Ne Nat hl pl →
      Fr h₀ L h' m → News h₀ L h' [(hl, listOf (List.toArray fvs) fn), (pl, listOf (List.toArray pvs) pn), (L + 1 + 1 + 1 + 1 + 1 + 1 + 1, o7), (L + 1 + 1 + 1 + 1 + 1 + 1, o6), (L + 1 + 1 + 1 + 1 + 1, o5), (L + 1 + 1 + 1 + 1, o4), (L + 1 + 1 + 1, o3), (L + 1 + 1, o2), (L + 1, o1), (87, tabObj #[])] → wpAny (model prog w) (ktrTop dp un gd "law" lawScope L fa (.ref 89) (lawCl L) []) (execs (lawBody.drop 6) (envX "law" lawScope L fa (.ref 89) (lawCl L))) Q E { s with heap := h', toks := tk' }) :
    wpAny (model prog w) (ktrTop dp un gd "law" lawScope L fa (.ref 89) (lawCl L) []) (execs (lawBody.drop 4) (envX "law" lawScope L fa (.ref 89) (lawCl L))) Q E s := by
  have hok' := hok
  obtain ⟨hsz, hst0, hst1, hb⟩ := hok'
  have hs4 : (4 : Int) ≤ (sz : Int) := by omega
  have hs16 : (sz : Int) ≤ 16 := by omega
  conv in (execs _ _) => (arg 1; whnf)
  refine wpAny_execs_cons ?_
  k_steps
  refine Stop.go ?_
  have N0 := news_sub N (b := (nl, listOf (List.toArray nvs) nn) :: (pl, listOf (List.toArray pvs) pn) :: [(L + 1 + 1 + 1 + 1 + 1 + 1 + 1, o7), (L + 1 + 1 + 1 + 1 + 1 + 1, o6), (L + 1 + 1 + 1 + 1 + 1, o5), (L + 1 + 1 + 1 + 1, o4), (L + 1 + 1 + 1, o3), (L + 1 + 1, o2), (L + 1, o1), (87, tabObj #[])])
    (List.forall_mem_cons.mpr ⟨List.mem_cons_of_mem _ (List.mem_cons_self ..), List.forall_mem_cons.mpr ⟨List.mem_cons_self .., fun q hq => List.mem_cons_of_mem _ (List.mem_cons_of_mem _ hq)⟩⟩)
  with_unfolding_all refine' huesC w p loose mean mg mb _ _ _ _ _ _ _ _ _ _ _ _ _ _ _ _ _ _ nl pl nvs pvs nn pn ns4 (plL sz st b) hnv hn4 hpv sz st t2 t3 hsz ⟨hst0, hst1⟩ plL_len ?pb ?ps B F X N0 T rfl ?d ?u ?s1 self4_dec ?col ?ret
  case pb => exact fun q hq => plL_mem (by omega) hq
  case ps =>
    intro k hk
    rw [plL_get hk, plL_get (by omega), Int.toNat_natCast, Int.toNat_natCast, plAt_succ]
  case d => ktr_room
  case u => ktr_units
  case s1 =>
    intro q hq
    have := plL_mem (by omega) hq
    exact fr_self hsz (by omega)
  case col => exact fun kn x y hk hx hy => hue_ok hok kn x y hk hx hy
  intro lh fvs fn h1 tk1 hF F1 N1 lA
  obtain ⟨l1, l2, l3⟩ := lA
  simp only [AllLt] at l3
  clear F N N0
  unfold OffC at ofp ofn
  k_steps
  refine Stop.go (wpAny_execs_cons ?_)
  dsimp only
  have hfl : fvs.length = sz := by rw [floats_len hF, List.length_map, plL_len]
  k_steps
  refine Stop.go ?_
  dsimp only
  rename Fr _ _ _ _ => F3
  rename News _ _ _ _ => N3
  refine cmp_ofEq (PySem.SeqAt.RcAt.lists_lengths ⟨_, (N3 _ (List.mem_cons_of_mem _ (List.mem_cons_self ..))).1, rfl, _, rfl⟩ ⟨_, (N3 _ (List.mem_cons_self ..)).1, rfl, _, rfl⟩ ?hz ?hu _ _ _ _ ?_)
  case hz => simp [hfl]; omega
  case hu => show un < cLine; omega
  k_steps
  refine Stop.go ?_
  with_unfolding_all refine' cont _ _ lh fvs fn _ hF ?dh ?oh ?op F3 (news_bd N3)
  case dh => assumption
  case oh => exact ⟨by omega, by omega, by omega, by omega, by omega, by omega, by omega, by omega⟩
  case op => exact Nat.ne_of_gt l2
end
theorem floats_get {vs : List Value} {bs : List UInt64} (h : Flt.FloatsAre vs bs) : ∀ i (hi : i < bs.length), ∃ t, vs[i]? = some (.float bs[i] t) := by
  induction h with
  | nil => intro i hi; simp at hi
  | cons b t h ih =>
    intro i hi
    cases i with
    | zero => exact ⟨_, rfl⟩
    | succ i =>
      obtain ⟨t', ht⟩ := ih i (by simpa using hi)
      exact ⟨t', by simpa using ht⟩
theorem hu_get {sz st b k : Nat} {fvs : List Value} (hF : Flt.FloatsAre fvs (huL sz st b)) (hk : k < sz) : ∃ t, fvs[(k : Int).toNat]? = some (.float (fr (plAt sz st b k) sz) t) := by
  have hl : k < (huL sz st b).length := by unfold huL; rw [List.length_map, plL_len]; exact hk
  obtain ⟨t, ht⟩ := floats_get hF k hl
  refine ⟨t, ?_⟩
  rw [Int.toNat_natCast, ht]
  congr 2
  unfold huL plL
  simp
/-- is the next hue less? -/
def stepDown (sz st b k : Nat) : Bool := decide (plAt sz st b ((k + 1) % sz) < plAt sz st b k)
def letS (d : Bool) : Str := if d then Str.ofString "b" else Str.ofString "a"
theorem strs_of_carried (g : Int → Str) : ∀ (ks : List Int) (ys : List Value), CarriedAll ys (ks.map fun k => PyData.str (g k)) → StrsAre ys (ks.map g)
  | [], _, h => by cases h; exact .nil
  | k :: ks, _, h => by
    cases h with
    | cons h1 h2 =>
      cases h1
      exact .cons _ _ (strs_of_carried g ks _ h2)
theorem strs_congr {vs : List Value} {a b : List Str} (h : StrsAre vs a) (e : a = b) : StrsAre vs b := e ▸ h
theorem let_sum (f : Nat → Bool) : ∀ l : List Nat, ((l.map fun k => letS (f k)).map (·.length)).sum = l.length
  | [] => rfl
  | k :: l => by
    rw [List.map_cons, List.map_cons, List.sum_cons, let_sum f l, List.length_cons]
    have : (letS (f k)).length = 1 := by
      unfold letS
      cases f k <;> rfl
    omega
section
local macro_rules | `(tactic| walk_at "execs cons") => `(tactic| refine Stop.intro ?_)
local macro_rules | `(tactic| walk_at "CompSrc") => `(tactic| refine Stop.intro ?_)
local macro_rules | `(tactic| walk_at "CompSrc IfExp cons ref") => `(tactic| refine Stop.intro ?_)
local macro_rules | `(tactic| walk_at "CompEnd") => `(tactic| refine Stop.intro ?_)
local macro_rules | `(tactic| walk_at "call builtin:str.join") => `(tactic| refine Stop.intro ?_)
local macro_rules | `(tactic| walk_at "subscriptTail Name BinOp ref int") => `(tactic| refine Stop.intro ?_)
local macro_rules | `(tactic| walk_at "subscriptTail Name Name ref int") => `(tactic| refine Stop.intro ?_)
local macro_rules | `(tactic| walk_at "compareOp Lt float float") => `(tactic| refine Stop.intro ?_)
theorem lawC1 (w : World) (p : Program) (loose : List Str) (mean : ExcName → Option Value) (mg mb : Str → Option Value)
    (dp un : Nat) (gd : Option (List Code)) (fa : Addr) (A₀ : Around) (base h₀ : Heap) (L : Addr) (s : Shared) (Q : Flow → Shared → Prop) (E : Value → Shared → Prop)
    (B : Below A₀ base [] h₀) (X : (hd.heap_39 w.params).In h₀) (C : CodeHd h₀ 89 87) (T : Top p loose mean mg mb h₀) (hdp : dp + 20 < recursionLimit) (hu : un + 200 < cLine) (hL87 : @LT.lt Nat _ 87 L)
    (m : Str → Option Value) (hl pl : Addr) (fvs pvs : List Value) (fn pn : Nat) (sz st b : Nat) (t2 t3 : Tok) (o1 o2 o3 o4 o5 o6 o7 : Obj) (hok : Okp sz st b) (hF : Flt.FloatsAre fvs (huL sz st b)) (hpv : IntsAre pvs (plL sz st b))
    (d2 : o2.data = .cell (some (.int sz t2))) (d4 : o4.data = .cell none) (d5 : o5.data = .cell (some (.ref hl))) (d6 : o6.data = .cell (some (.ref pl))) (ofp : OffC pl L) (ofh : OffC hl L) (ohp : @Ne Nat hl pl)
    (F : Fr h₀ L s.heap m) (N : News h₀ L s.heap [(hl, listOf (List.toArray fvs) fn), (pl, listOf (List.toArray pvs) pn), (L + 1 + 1 + 1 + 1 + 1 + 1 + 1, o7), (L + 1 + 1 + 1 + 1 + 1 + 1, o6), (L + 1 + 1 + 1 + 1 + 1, o5), (L + 1 + 1 + 1 + 1, o4), (L + 1 + 1 + 1, o3), (L + 1 + 1, o2), (L + 1, o1), (87, tabObj #[])])
    (cont : ∀ h' tk' o4 wt, o4.data = .cell (some (.str (Txt.join (Str.ofString "") ((List.range sz).map fun k => letS (stepDown sz st b k))) wt)) →
      Fr h₀ L h' m → News h₀ L h' [(hl, listOf (List.toArray fvs) fn), (pl, listOf (List.toArray pvs) pn), (L + 1 + 1 + 1 + 1 + 1 + 1 + 1, o7), (L + 1 + 1 + 1 + 1 + 1 + 1, o6), (L + 1 + 1 + 1 + 1 + 1, o5), (L + 1 + 1 + 1 + 1, o4), (L + 1 + 1 + 1, o3), (L + 1 + 1, o2), (L + 1, o1), (87, tabObj #[])] → wpAny (model prog w) (ktrTop dp un gd "law" lawScope L fa (.ref 89) (lawCl L) []) (execs (lawBody.drop 7) (envX "law" lawScope L fa (.ref 89) (lawCl L))) Q E { s with heap := h', toks := tk' }) :
    wpAny (model prog w) (ktrTop dp un gd "law" lawScope L fa (.ref 89) (lawCl L) []) (execs (lawBody.drop 6) (envX "law" lawScope L fa (.ref 89) (lawCl L))) Q E s := by
  have hok' := hok
  obtain ⟨hsz, hst0, hst1, hb⟩ := hok'
  have hs4 : (4 : Int) ≤ (sz : Int) := by omega
  have hs16 : (sz : Int) ≤ 16 := by omega
  conv in (execs _ _) => (arg 1; whnf)
  refine wpAny_execs_cons ?_
  k_steps
  refine Stop.go ?_
  dsimp only
  rename Fr _ _ _ _ => F1
  rename News _ _ _ _ => N1
  rename IsRange _ _ _ _ _ _ _ _ => R1
  refine LCg.CompSrc.range (n := sz) rfl F1 N1 R1 (small_one (by omega) (by omega) (by omega) (by omega)) ?rs (by rw [PySem.sizeLine_eq]; omega) ?_
  case rs => first | exact rangeSize_nat _ _ | (have := rangeSize_nat 0 sz; simpa using this)
  intro g'
  refine kct_range (fun k => letS (stepDown sz st b k.toNat)) (fun k t I oI C9 oC D m₂ ys h tk E' hlo hhi hC hx F2 N2 off ne mk => ?turn) ?fin
  case turn =>
    obtain ⟨kn, rfl⟩ : ∃ kn : Nat, k = (kn : Int) := ⟨k.toNat, by omega⟩
    have hm : ((kn : Int) + 1).fmod (sz : Int) = (((kn + 1) % sz : Nat) : Int) := by
      rw [Int.fmod_eq_emod_of_nonneg _ (by omega), Int.natCast_emod, Int.natCast_add]; rfl
    have hk1 : (kn + 1) % sz < sz := Nat.mod_lt _ (by omega)
    have hk0 : kn < sz := by omega
    obtain ⟨u1, g1⟩ := hu_get hF hk1
    obtain ⟨u0, g0⟩ := hu_get hF hk0
    have hlt := fr_lt hsz (plAt_lt (sz := sz) (st := st) (b := b) (k := (kn + 1) % sz) (by omega)) (plAt_lt (sz := sz) (st := st) (b := b) (k := kn) (by omega))
    have hEl : letS (stepDown sz st b (kn : Int).toNat) = letS (decide (plAt sz st b ((kn + 1) % sz) < plAt sz st b kn)) := by rw [Int.toNat_natCast]; rfl
    clear F1 N1 R1
    k_steps
    refine Stop.go ?_
    try dsimp only
    refine key_item (l := hl) (vs := fvs) (nn := fn) (v := .float (fr (plAt sz st b ((kn + 1) % sz)) sz) u1) (N2.get (List.mem_cons_of_mem _ (List.mem_cons_of_mem _ (List.mem_cons_of_mem _ (List.mem_cons_self ..))))) (by omega) (by omega) (by rw [hm]; exact g1) ?_ (by with_unfolding_all rfl)
    k_steps
    refine Stop.go ?_
    try dsimp only
    refine key_item (l := hl) (vs := fvs) (nn := fn) (v := .float (fr (plAt sz st b kn) sz) u0) (N2.get (List.mem_cons_of_mem _ (List.mem_cons_of_mem _ (List.mem_cons_of_mem _ (List.mem_cons_self ..))))) (by omega) (by omega) g0 ?_ (by with_unfolding_all rfl)
    k_steps
    refine Stop.go (AutoFloatOps.lt_0 ?_)
    rw [show (Float64.cmp (fr (plAt sz st b ((kn + 1) % sz)) sz) (fr (plAt sz st b kn) sz) == some Ordering.lt) = _ from hlt, hEl]
    clear hEl hlt
    generalize decide (plAt sz st b ((kn + 1) % sz) < plAt sz st b kn) = dd
    cases dd
    · k_steps
      refine Stop.go ?_
      exact LCg.CompEnd.intro F2 N2 _ (fun _ hp => hp) off trivial ⟨rfl, _, rfl⟩
    · k_steps
      refine Stop.go ?_
      exact LCg.CompEnd.intro F2 N2 _ (fun _ hp => hp) off trivial ⟨rfl, _, rfl⟩
  case fin =>
    show ∀ ys, _ → _ → _
    intro ys hcar _
    intro D h2 tk2 F2 N2 off
    clear F1 N1 R1
    k_steps
    refine Stop.go ?_
    have hS : StrsAre ys.toArray.toList ((List.range sz).map fun k => letS (stepDown sz st b k)) := by
      have h1 := strs_of_carried (fun k : Int => letS (stepDown sz st b k.toNat)) (rangeKs 0 sz) ys hcar
      unfold rangeKs at h1
      rw [List.map_map] at h1
      refine strs_congr h1 ?_
      refine List.map_congr_left fun k _ => ?_
      show letS (stepDown sz st b (0 + (k : Int)).toNat) = _
      rw [Int.zero_add, Int.toNat_natCast]
    with_unfolding_all refine' join_listW ⟨_, (N2 _ (List.mem_cons_self ..)).1, rfl, _, rfl⟩ hS ?w1 ?w2 ?_
    case w1 => decide
    case w2 =>
      have := let_sum (fun k => stepDown sz st b k) (List.range sz)
      rw [this, List.length_map, List.length_range]
      omega
    intro t4 k4
    unfold OffC at ofp ofh
    simp only [LCg.Off1, and_true] at off
    k_steps
    refine Stop.go ?_
    rename Fr _ _ _ _ => F4
    rename News _ _ _ _ => N4
    with_unfolding_all refine' cont _ _ _ _ ?d4 F4 (news_tl N4)
    case d4 => assumption
end
def rdS (wd : Str) (k : Nat) : Str := Txt.slice wd (some (k : Int)) none ++ Txt.slice wd none (some (k : Int))
section
local macro_rules | `(tactic| walk_at "execs cons") => `(tactic| refine Stop.intro ?_)
local macro_rules | `(tactic| walk_at "CompSrc") => `(tactic| refine Stop.intro ?_)
local macro_rules | `(tactic| walk_at "CompSrc BinOp cons ref") => `(tactic| refine Stop.intro ?_)
local macro_rules | `(tactic| walk_at "CompEnd") => `(tactic| refine Stop.intro ?_)
theorem lawD1 (w : World) (p : Program) (loose : List Str) (mean : ExcName → Option Value) (mg mb : Str → Option Value)
    (dp un : Nat) (gd : Option (List Code)) (fa : Addr) (A₀ : Around) (base h₀ : Heap) (L : Addr) (s : Shared) (Q : Flow → Shared → Prop) (E : Value → Shared → Prop)
    (B : Below A₀ base [] h₀) (X : (hd.heap_39 w.params).In h₀) (C : CodeHd h₀ 89 87) (T : Top p loose mean mg mb h₀) (hdp : dp + 20 < recursionLimit) (hu : un + 200 < cLine) (hL87 : @LT.lt Nat _ 87 L)
    (m : Str → Option Value) (hl pl : Addr) (fvs pvs : List Value) (fn pn : Nat) (sz : Nat) (t2 t3 : Tok) (wd : Str) (wt : Tok) (o1 o2 o3 o4 o5 o6 o7 : Obj) (hsz : sz = 4 ∨ sz = 8 ∨ sz = 16) (hwl : wd.length = sz)
    (d2 : o2.data = .cell (some (.int sz t2))) (d4 : o4.data = .cell (some (.str wd wt))) (d7 : o7.data = .cell none) (ofp : OffC pl L) (ofh : OffC hl L) (ohp : @Ne Nat hl pl)
    (F : Fr h₀ L s.heap m) (N : News h₀ L s.heap [(hl, listOf (List.toArray fvs) fn), (pl, listOf (List.toArray pvs) pn), (L + 1 + 1 + 1 + 1 + 1 + 1 + 1, o7), (L + 1 + 1 + 1 + 1 + 1 + 1, o6), (L + 1 + 1 + 1 + 1 + 1, o5), (L + 1 + 1 + 1 + 1, o4), (L + 1 + 1 + 1, o3), (L + 1 + 1, o2), (L + 1, o1), (87, tabObj #[])])
    (cont : ∀ h' tk' o7 rl rvs rn, StrsAre rvs ((List.range sz).map fun k => rdS wd k) → o7.data = .cell (some (.ref rl)) → OffC rl L → @Ne Nat rl hl → @Ne Nat rl pl →
      Fr h₀ L h' m → News h₀ L h' [(rl, listOf (List.toArray rvs) rn), (hl, listOf (List.toArray fvs) fn), (pl, listOf (List.toArray pvs) pn), (L + 1 + 1 + 1 + 1 + 1 + 1 + 1, o7), (L + 1 + 1 + 1 + 1 + 1 + 1, o6), (L + 1 + 1 + 1 + 1 + 1, o5), (L + 1 + 1 + 1 + 1, o4), (L + 1 + 1 + 1, o3), (L + 1 + 1, o2), (L + 1, o1), (87, tabObj #[])] → wpAny (model prog w) (ktrTop dp un gd "law" lawScope L fa (.ref 89) (lawCl L) []) (execs (lawBody.drop 8) (envX "law" lawScope L fa (.ref 89) (lawCl L))) Q E { s with heap := h', toks := tk' }) :
    wpAny (model prog w) (ktrTop dp un gd "law" lawScope L fa (.ref 89) (lawCl L) []) (execs (lawBody.drop 7) (envX "law" lawScope L fa (.ref 89) (lawCl L))) Q E s := by
  have hs4 : (4 : Int) ≤ (sz : Int) := by omega
  have hs16 : (sz : Int) ≤ 16 := by omega
  conv in (execs _ _) => (arg 1; whnf)
  refine wpAny_execs_cons ?_
  k_steps
  refine Stop.go ?_
  try dsimp only
  rename Fr _ _ _ _ => F1
  rename News _ _ _ _ => N1
  rename IsRange _ _ _ _ _ _ _ _ => R1
  refine LCg.CompSrc.range (n := sz) rfl F1 N1 R1 (small_one (by omega) (by omega) (by omega) (by omega)) ?rs (by rw [PySem.sizeLine_eq]; omega) ?_
  case rs => first | exact rangeSize_nat _ _ | (have := rangeSize_nat 0 sz; simpa using this)
  intro g'
  refine kct_range (fun k => Txt.slice wd (some k) none ++ Txt.slice wd none (some k)) (fun k t I oI C9 oC D m₂ ys h tk E' hlo hhi hC hx F2 N2 off ne mk => ?turn) ?fin
  case turn =>
    obtain ⟨kn, rfl⟩ : ∃ kn : Nat, k = (kn : Int) := ⟨k.toNat, by omega⟩
    clear F1 N1 R1
    k_steps
    refine Stop.go ?_
    rename Fr _ _ _ _ => F3
    rename News _ _ _ _ => N3
    exact LCg.CompEnd.intro F3 N3 _ (fun _ hp => hp) off trivial ⟨rfl, _, rfl⟩
  case fin =>
    show ∀ ys, _ → _ → _
    intro ys hcar _
    intro D h2 tk2 F2 N2 off
    clear F1 N1 R1
    have hS : StrsAre ys ((List.range sz).map fun k => rdS wd k) := by
      have h1 := strs_of_carried (fun k : Int => Txt.slice wd (some k) none ++ Txt.slice wd none (some k)) (rangeKs 0 sz) ys hcar
      unfold rangeKs at h1
      rw [List.map_map] at h1
      refine strs_congr h1 ?_
      refine List.map_congr_left fun k _ => ?_
      show Txt.slice wd (some (0 + (k : Int))) none ++ Txt.slice wd none (some (0 + (k : Int))) = rdS wd k
      rw [Int.zero_add]; rfl
    unfold OffC at ofp ofh
    simp only [LCg.Off1, and_true] at off
    k_steps
    refine Stop.go ?_
    rename Fr _ _ _ _ => F4
    rename News _ _ _ _ => N4
    with_unfolding_all refine' cont _ _ _ _ _ _ hS ?d7 ?o1 ?o2 ?o3 F4 N4
    case d7 => assumption
    case o1 => exact ⟨by omega, by omega, by omega, by omega, by omega, by omega, by omega, by omega⟩
    case o2 => omega
    case o3 => omega
end
section
local macro_rules | `(tactic| walk_at "execs cons") => `(tactic| refine Stop.intro ?_)
local macro_rules | `(tactic| walk_at "pyIter ref") => `(tactic| refine Stop.intro ?_)
local macro_rules | `(tactic| walk_at "call ref") => `(tactic| refine Stop.intro ?_)
local macro_rules | `(tactic| walk_at "InvPostG") => `(tactic| refine Stop.intro ?_)
local macro_rules | `(tactic| walk_at "InvEndG") => `(tactic| refine Stop.intro ?_)
theorem lawE1 (w : World) (p : Program) (loose : List Str) (mean : ExcName → Option Value) (mg mb : Str → Option Value)
    (dp un : Nat) (gd : Option (List Code)) (fa : Addr) (A₀ : Around) (base h₀ : Heap) (L : Addr) (s : Shared) (Q : Flow → Shared → Prop) (E : Value → Shared → Prop)
    (B : Below A₀ base [] h₀) (X : (hd.heap_39 w.params).In h₀) (C : CodeHd h₀ 89 87) (T : Top p loose mean mg mb h₀) (hdp : dp + 20 < recursionLimit) (hu : un + 200 < cLine) (hL87 : @LT.lt Nat _ 87 L)
    (m : Str → Option Value) (rl hl pl : Addr) (rvs fvs pvs : List Value) (rn fn pn : Nat) (o1 o2 o3 o4 o5 o6 o7 : Obj)
    (F : Fr h₀ L s.heap m) (N : News h₀ L s.heap [(rl, listOf (List.toArray rvs) rn), (hl, listOf (List.toArray fvs) fn), (pl, listOf (List.toArray pvs) pn), (L + 1 + 1 + 1 + 1 + 1 + 1 + 1, o7), (L + 1 + 1 + 1 + 1 + 1 + 1, o6), (L + 1 + 1 + 1 + 1 + 1, o5), (L + 1 + 1 + 1 + 1, o4), (L + 1 + 1 + 1, o3), (L + 1 + 1, o2), (L + 1, o1), (87, tabObj #[])])
    (cont : ∀ h' tk' bw bh, OffC bw L → OffC bh L → (@Ne Nat bw rl ∧ @Ne Nat bw hl ∧ @Ne Nat bw pl) → (@Ne Nat bh rl ∧ @Ne Nat bh hl ∧ @Ne Nat bh pl ∧ @Ne Nat bh bw) →
      Fr h₀ L h' (fun y => if y = Str.ofString "by_hue" then some (Value.ref bh) else if y = Str.ofString "by_word" then some (Value.ref bw) else m y) → News h₀ L h' [(bh, listOf (List.toArray []) 0), (bw, listOf (List.toArray []) 0), (rl, listOf (List.toArray rvs) rn), (hl, listOf (List.toArray fvs) fn), (pl, listOf (List.toArray pvs) pn), (L + 1 + 1 + 1 + 1 + 1 + 1 + 1, o7), (L + 1 + 1 + 1 + 1 + 1 + 1, o6), (L + 1 + 1 + 1 + 1 + 1, o5), (L + 1 + 1 + 1 + 1, o4), (L + 1 + 1 + 1, o3), (L + 1 + 1, o2), (L + 1, o1), (87, tabObj #[])] → wpAny (model prog w) (ktrTop dp un gd "law" lawScope L fa (.ref 89) (lawCl L) []) (execs (lawBody.drop 10) (envX "law" lawScope L fa (.ref 89) (lawCl L))) Q E { s with heap := h', toks := tk' }) :
    wpAny (model prog w) (ktrTop dp un gd "law" lawScope L fa (.ref 89) (lawCl L) []) (execs (lawBody.drop 8) (envX "law" lawScope L fa (.ref 89) (lawCl L))) Q E s := by
  conv in (execs _ _) => (arg 1; whnf)
  refine wpAny_execs_cons ?_
  k_steps
  refine Stop.go (wpAny_execs_cons ?_)
  try dsimp only
  k_steps
  refine Stop.go ?_
  try dsimp only
  rename Fr _ _ _ _ => F1
  rename News _ _ _ _ => N1
  with_unfolding_all refine' cont _ _ _ _ ?c1 ?c2 ?c3 ?c4 F1 N1
  case c1 => exact ⟨by omega, by omega, by omega, by omega, by omega, by omega, by omega, by omega⟩
  case c2 => exact ⟨by omega, by omega, by omega, by omega, by omega, by omega, by omega, by omega⟩
  case c3 => exact ⟨by omega, by omega, by omega⟩
  case c4 => exact ⟨by omega, by omega, by omega, by omega⟩
end
section
variable {prog : Program} {w : World} {A : Around} {E : Value → Shared → Prop} {s : Shared} {env : Env} {h₀ : Heap} {x : Str} {body : List Stmt} {Q : Flow → Shared → Prop}
theorem range_invG {r : Addr} {a₀ b₀ : Int} {t₀ u₀ v₀ : Tok} {n : Nat} {m₀ : Str → Option Value} {news : List (Addr × Obj)} (J : Nat → (Str → Option Value) → List (Addr × Obj) → Prop)
    (hh : A.handled = none) (hr : IsRange s.heap r a₀ b₀ 1 t₀ u₀ v₀) (hsmall : Builtin.Range.small a₀ b₀ 1 = true) (hn : Builtin.Range.rangeSize a₀ b₀ 1 = (n : Int)) (F : Fr h₀ env.locals s.heap m₀) (N : News h₀ env.locals s.heap news) (hj : J 0 m₀ news)
    (turn : ∀ i t m₁ news₁ h tk own, i < n → OwnOff own (news₁.map (·.1)) → J i m₁ news₁ → Fr h₀ env.locals h (fun y => if y = x then some (.int (a₀ + (i : Int)) t) else m₁ y) → News h₀ env.locals h (news₁ ++ own) →
      wpAny (model prog w) A (execs body env) (InvPostG h₀ env.locals (J (i + 1)) own { s with heap := h, toks := tk } Q) E { s with heap := h, toks := tk })
    (done : ∀ m₁ news₁ h tk, J n m₁ news₁ → Fr h₀ env.locals h m₁ → News h₀ env.locals h news₁ → Q .next { s with heap := h, toks := tk }) :
    wpAny (model prog w) A (pyIter (.ref r)) (fun it s₂ => LoopAtV prog w A h₀ env x body Q E it s₂) E s := by
  refine wpAny_pyIter_range hr hsmall ?_
  have W : Walks prog w A s.heap.objs.size [s.heap.objs.size] [s.heap.objs.size] n (fun i v => i < n ∧ ∃ t, v = .int (a₀ + i * 1) t)
      (fun i h => IsRangeIter h s.heap.objs.size (a₀ + (i : Nat) * 1) ((n : Int) - (i : Nat)) 1) := (Walks.range hh _ a₀ 1 n).bound
  refine ⟨_, _, _, n, _, _, m₀, news, J, rfl, W, ?_, ?_, ?_, (by show IsRangeIter _ _ _ _ _; rw [hn]; simpa using Heap.get?_push_size _ rfl), F.push _, (fun p hp => ⟨Heap.get?_push_of_some _ (N p hp).1, (N p hp).2⟩), hj, ?_, ?_⟩
  · intro hm
    exact absurd F.ns.lt ((List.mem_singleton.mp hm) ▸ Nat.lt_irrefl _)
  · intro b hb
    rw [List.mem_singleton.mp hb]
    exact next_is_new F
  · intro p hp hI
    exact absurd (Heap.lt_size (N p hp).1) ((List.mem_singleton.mp hI) ▸ Nat.lt_irrefl _)
  · rintro i v m₁ news₁ s₁ own ⟨hh', tk', rfl⟩ hin ⟨_, t, rfl⟩ hJ hoff hown _ hfp hst F₁ N₁
    have hI0 : h₀.get? s.heap.objs.size = none := next_is_new F
    have hoI : hh'.get? s.heap.objs.size = some { cls := .type "range_iterator", data := .fields #[rawInt (a₀ + ((i + 1 : Nat) : Int) * 1), rawInt ((n : Int) - ((i + 1 : Nat) : Int)), rawInt 1] } := hst
    have hIown := hfp _ (List.mem_cons_self ..) hI0 _ hoI
    have hsep : OwnOff own (news₁.map (·.1)) := by
      intro p hp b hb e
      obtain ⟨q, hq, rfl⟩ := List.mem_map.mp hb
      exact hoff q hq (e ▸ hown p hp)
    have e1 : a₀ + (i : Int) * 1 = a₀ + (i : Int) := by omega
    rw [e1] at F₁
    have N₂ : News h₀ env.locals hh' (news₁ ++ own) := fun p hp => N₁ p ((List.mem_append.mp hp).elim (fun h => List.mem_append.mpr (.inr h)) fun h => List.mem_append.mpr (.inl h))
    refine wpAny_mono (turn i t m₁ news₁ hh' tk' own hin hsep hJ F₁ N₂) (fun f s₂ p => ?_) fun _ _ e => e
    have fin : InvEndG h₀ env.locals (J (i + 1)) own { s with heap := hh', toks := tk' } s₂ → LoopStepU h₀ env.locals [s.heap.objs.size] own (J (i + 1)) { s with heap := hh', toks := tk' } .next s₂ := by
      rintro ⟨h', tk, m', news', nx, e, F', N', hn', ho, ha, hm⟩
      refine ⟨rfl, h', tk, m', nx, e, F', fun p hp => N' p ((List.mem_append.mp hp).elim (ho p) (hn' p)), fun p hp hq => ?_, hm⟩
      exact ha _ hIown p.1 (List.mem_map.mpr ⟨p, hp, rfl⟩) (List.mem_singleton.mp hq).symm
    cases f with
    | ret v => exact .ret p
    | brk => exact .brk p
    | next => exact .next (fin p)
    | cont => exact .cont (fin p)
  · rintro h' tk m' news' F' N' _ hJ
    exact done m' news' h' tk hJ F' N'

theorem kst_rangeG {σ : Type} {r : Addr} {a₀ b₀ : Int} {t₀ u₀ v₀ : Tok} {n : Nat} {m₀ : Str → Option Value} (Led : σ → List (Addr × Obj)) (ps : σ → List (Str × Value)) (Facts : σ → Prop) (stored : List Str) (P : List Int → σ → Prop) (c₀ : σ)
    (hh : A.handled = none) (hr : IsRange s.heap r a₀ b₀ 1 t₀ u₀ v₀) (hsmall : Builtin.Range.small a₀ b₀ 1 = true) (hn : Builtin.Range.rangeSize a₀ b₀ 1 = (n : Int)) (F : Fr h₀ env.locals s.heap m₀) (N : News h₀ env.locals s.heap (Led c₀)) (hf : Facts c₀) (hk : ∀ p ∈ ps c₀, m₀ p.1 = some p.2) (hp : P [] c₀)
    (turn : ∀ (c : σ) (pre : List Int) (k : Int) t (u : Str → Option Value) h tk own, k = a₀ + (pre.length : Int) → pre.length < n → OwnOff own ((Led c).map (·.1)) → Facts c → P pre c →
      Fr h₀ env.locals h (fun y => if y = x then some (.int k t) else kstB (fun z => if stored.contains z then u z else m₀ z) (ps c) y) → News h₀ env.locals h (Led c ++ own) →
      wpAny (model prog w) A (execs body env) (InvPostG h₀ env.locals (KstS Led ps Facts x stored m₀ P (pre ++ [k])) own { s with heap := h, toks := tk } Q) E { s with heap := h, toks := tk })
    (done : ∀ (c : σ) (u : Str → Option Value) h tk, Facts c → P (rangeKs a₀ n) c → Fr h₀ env.locals h (fun y => if y = x then u y else kstB (fun z => if stored.contains z then u z else m₀ z) (ps c) y) → News h₀ env.locals h (Led c) → Q .next { s with heap := h, toks := tk }) :
    wpAny (model prog w) A (pyIter (.ref r)) (fun it s₂ => LoopAtV prog w A h₀ env x body Q E it s₂) E s := by
  refine range_invG (fun i m nx => KstS Led ps Facts x stored m₀ P ((rangeKs a₀ n).take i) m nx) hh hr hsmall hn F N ⟨c₀, rfl, hf, hk, fun _ _ _ _ => rfl, by simpa using hp⟩ ?_ ?_
  · rintro i t m₁ nx h tk own hi hoff ⟨c, rfl, hf', h1, h2, hp'⟩ F₁ N₁
    have hk' : (rangeKs a₀ n)[i]? = some (a₀ + (i : Int)) := by simp [rangeKs, hi]
    have hs : (rangeKs a₀ n).take (i + 1) = (rangeKs a₀ n).take i ++ [a₀ + (i : Int)] := by simp [List.take_add_one, hk']
    have hlen : ((rangeKs a₀ n).take i).length = i := by rw [List.length_take, rangeKs_length]; omega
    rw [hs]
    exact turn c _ _ t m₁ h tk own (by rw [hlen]) (by rw [hlen]; exact hi) hoff hf' hp' (kst_fr h1 h2 F₁) N₁
  · rintro m₁ nx h tk ⟨c, rfl, hf', h1, h2, hp'⟩ F₁ N₁
    have hl : (rangeKs a₀ n).take n = rangeKs a₀ n := List.take_of_length_le (Nat.le_of_eq (rangeKs_length _ _))
    rw [hl] at hp'
    exact done c m₁ h tk hf' hp' (kst_frOut h1 h2 F₁) N₁

theorem kst_endG {σ : Type} {Led : σ → List (Addr × Obj)} {ps : σ → List (Str × Value)} {Facts : σ → Prop} {stored : List Str} {m₀ : Str → Option Value} {P : List Int → σ → Prop} {pre : List Int} (c : σ) {L : Addr} {m' : Str → Option Value} {own news' : List (Addr × Obj)} {s₁ : Shared} {h' : Heap} {tk : Nat}
    (F : Fr h₀ L h' m') (N : News h₀ L h' news') (hn : ∀ p ∈ Led c, p ∈ news') (ho : ∀ p ∈ own, p ∈ news') (ha : OwnOff own ((Led c).map (·.1))) (hf : Facts c) (hk : ∀ p ∈ ps c, m' p.1 = some p.2) (hr : ∀ z, z ≠ x → (∀ p ∈ ps c, z ≠ p.1) → stored.contains z = false → m' z = m₀ z) (hp : P pre c) :
    InvEndG h₀ L (KstS Led ps Facts x stored m₀ P pre) own s₁ { s₁ with heap := h', toks := tk } :=
  InvEndG.intro F N ⟨c, rfl, hf, hk, hr, hp⟩ ha hn ho
end
theorem among_snoc {pos : Pos} (a b : Int) (c : Value) (l : List Value) (h : TriplesOk l) :
    codeAmong pos (l ++ [rawInt a, rawInt b, c]) = match codeAmong pos l with | some x => some x | none => if a == pos.line && b == pos.col then some c else none := by
  fun_induction TriplesOk l with
  | case1 => simp [codeAmong, rawInt]
  | case2 a' t b' u x rest ih =>
    simp only [List.cons_append, codeAmong]
    by_cases hc : (a' == (pos.line : Int) && b' == (pos.col : Int)) = true
    · rw [if_pos hc, if_pos hc]
    · rw [if_neg hc, if_neg hc]; exact ih h
  | case3 l h1 h2 => exact h.elim
/-- the table of nested code: for each place nothing yet, or a code object of the ledger -/
def TabInv (q : Str) (tab : Array Value) (rest : List (Addr × Obj)) : Prop :=
  TriplesOk tab.toList ∧ ∀ pos : Pos, codeAmong pos tab.toList = none ∨ ∃ c' oc vs t, codeAmong pos tab.toList = some (.ref c') ∧ (c', oc) ∈ rest ∧ oc.data = .fields vs ∧ vs[1]? = some (.str q t)
theorem TabInv.nil (q : Str) (rest : List (Addr × Obj)) : TabInv q #[] rest := ⟨trivial, fun _ => .inl rfl⟩
theorem TabInv.mono {q : Str} {tab : Array Value} {a b : List (Addr × Obj)} (h : TabInv q tab a) (hs : ∀ x ∈ a, x ∈ b) : TabInv q tab b :=
  ⟨h.1, fun pos => (h.2 pos).imp id fun ⟨c', oc, vs, t, e, hm, r⟩ => ⟨c', oc, vs, t, e, hs _ hm, r⟩⟩
theorem TabInv.snoc {q : Str} {tab : Array Value} {a : List (Addr × Obj)} {pos : Pos} {c' : Addr} {oc : Obj} {vs : Array Value} {t : Tok} (h : TabInv q tab a) (hd : oc.data = .fields vs) (hv : vs[1]? = some (.str q t)) :
    TabInv q (tab ++ #[rawInt pos.line, rawInt pos.col, .ref c']) ((c', oc) :: a) := by
  have e : (tab ++ #[rawInt pos.line, rawInt pos.col, Value.ref c']).toList = tab.toList ++ [rawInt pos.line, rawInt pos.col, .ref c'] := by simp
  refine ⟨by rw [e]; exact TriplesOk_snoc _ _ _ _ h.1, fun pos' => ?_⟩
  rw [e, among_snoc _ _ _ _ h.1]
  rcases h.2 pos' with h1 | ⟨c2, o2, v2, t2, h1, hm, hr⟩
  · rw [h1]
    dsimp only
    split
    · exact .inr ⟨c', oc, vs, t, rfl, List.mem_cons_self .., hd, hv⟩
    · exact .inl rfl
  · rw [h1]
    exact .inr ⟨c2, o2, v2, t2, rfl, List.mem_cons_of_mem _ hm, hr⟩

section
variable {M : Model} {A : Around} {E : Value → Shared → Prop} {s : Shared} {h₀ : Heap} {L a c : Addr} {m mg mb : Str → Option Value} {cn : Str} {cs : Scope} {ccd : Value} {cl : List (Str × Addr)} {rest : List (Addr × Obj)} {tab : Array Value}
  {p : Program} {loose : List Str} {mean : ExcName → Option Value} {params : Arguments} {body : Expr} {scope : Scope} {pos : Pos} {clos : List (Str × Addr)} {P : Addr}
theorem lam_any {Q : Value → Shared → Prop} (F : Fr h₀ L s.heap m) (N : News h₀ L s.heap ((P, tabObj tab) :: rest)) (T : Top p loose mean mg mb h₀) (C : CodeHd h₀ c P) (hcd : ccd = .ref c) (hI : TabInv ((envX cn cs L a ccd cl).qual ++ "<lambda>") tab rest) (hP : ∀ q ∈ rest, q.1 ≠ P)
    (hdef : defaultsOf params (envX cn cs L a ccd cl) = ([], [])) (hcl : closureFor scope (envX cn cs L a ccd cl) = pure clos)
    (h : ∀ f c' oc vs t ctv h' tk tab' rest', Fr h₀ L h' m →
      News h₀ L h' ((f, kla_obj "<lambda>" ((envX cn cs L a ccd cl).qual ++ "<lambda>") params body scope clos ((mg "__name__").getD .none) c' ctv) :: (P, tabObj tab') :: rest') →
      (rest' = rest ∨ rest' = (c', oc) :: rest ∧ P < c' ∧ ∀ q ∈ rest, q.1 < c') → (c', oc) ∈ rest' → oc.data = .fields vs → vs[1]? = some (.str ((envX cn cs L a ccd cl).qual ++ "<lambda>") t) → TabInv ((envX cn cs L a ccd cl).qual ++ "<lambda>") tab' rest' →
      P < f → (∀ q ∈ rest', q.1 < f) → Q (.ref f) { s with heap := h', toks := tk }) :
    wpAny M A (eval (.Lambda params body scope pos) (envX cn cs L a ccd cl)) Q E s := by
  refine kla_eval hdef ?_
  rcases hI.2 pos with hn | ⟨c', oc, vs, t, hf, hm, hd, hv⟩
  · refine kla_nest F N T C hcd (UpdF.head hP) hI.1 hn hcl fun f c' oc vs t ctv h' tk F' N' hd hv hlt hf => ?_
    have l1 : P < c' := hlt _ (List.mem_cons_self ..)
    have l2 : ∀ q ∈ rest, q.1 < c' := fun q hq => hlt q (List.mem_cons_of_mem _ hq)
    refine h f c' oc vs t ctv h' tk (tab ++ #[rawInt pos.line, rawInt pos.col, .ref c']) ((c', oc) :: rest) F' (fun x hx => ?_) (.inr ⟨rfl, l1, l2⟩) (List.mem_cons_self ..) hd hv (hI.snoc hd hv) (Nat.lt_trans l1 hf) ?_
    · rcases List.mem_cons.mp hx with rfl | hx
      · exact N' _ (List.mem_cons_self ..)
      · rcases List.mem_cons.mp hx with rfl | hx
        · exact N' _ (List.mem_cons_of_mem _ (List.mem_cons_of_mem _ (List.mem_cons_self ..)))
        · rcases List.mem_cons.mp hx with rfl | hx
          · exact N' _ (List.mem_cons_of_mem _ (List.mem_cons_self ..))
          · exact N' _ (List.mem_cons_of_mem _ (List.mem_cons_of_mem _ (List.mem_cons_of_mem _ hx)))
    · intro q hq
      rcases List.mem_cons.mp hq with rfl | hq
      · exact hf
      · exact Nat.lt_trans (l2 q hq) hf
  · refine kla_hit F N T C hcd (List.mem_cons_self ..) hI.1 hf hcl fun f ctv h' tk F' N' hlt => ?_
    exact h f c' oc vs t ctv h' tk tab rest F' N' (.inl rfl) hm hd hv hI (hlt _ (List.mem_cons_self ..)) fun q hq => hlt q (List.mem_cons_of_mem _ hq)

theorem lam2 {Q : Value → Shared → Prop} {a1 b1 : Addr × Obj} {own : List (Addr × Obj)} (F : Fr h₀ L s.heap m) (N : News h₀ L s.heap (a1 :: b1 :: (P, tabObj tab) :: (rest ++ own))) (T : Top p loose mean mg mb h₀) (C : CodeHd h₀ c P) (hcd : ccd = .ref c)
    (hI : TabInv ((envX cn cs L a ccd cl).qual ++ "<lambda>") tab rest) (ha : a1.1 ≠ P) (hb : b1.1 ≠ P) (hr : ∀ q ∈ rest, q.1 ≠ P) (ho : ∀ q ∈ own, q.1 ≠ P)
    (hdef : defaultsOf params (envX cn cs L a ccd cl) = ([], [])) (hcl : closureFor scope (envX cn cs L a ccd cl) = pure clos)
    (h : ∀ f c' oc vs t ctv h' tk tab' rest', Fr h₀ L h' m →
      News h₀ L h' (a1 :: b1 :: (f, kla_obj "<lambda>" ((envX cn cs L a ccd cl).qual ++ "<lambda>") params body scope clos ((mg "__name__").getD .none) c' ctv) :: (P, tabObj tab') :: (rest' ++ own)) →
      TabInv ((envX cn cs L a ccd cl).qual ++ "<lambda>") tab' rest' → (∀ q ∈ rest, q ∈ rest') → (c', oc) ∈ rest' → oc.data = .fields vs → vs[1]? = some (.str ((envX cn cs L a ccd cl).qual ++ "<lambda>") t) →
      (∀ q ∈ rest', q ∈ rest ∨ P < q.1 ∧ a1.1 < q.1 ∧ b1.1 < q.1 ∧ ∀ x ∈ own, x.1 < q.1) →
      P < f ∧ a1.1 < f ∧ b1.1 < f ∧ (∀ q ∈ rest', q.1 < f) ∧ (∀ q ∈ own, q.1 < f) → Q (.ref f) { s with heap := h', toks := tk }) :
    wpAny M A (eval (.Lambda params body scope pos) (envX cn cs L a ccd cl)) Q E s := by
  rcases hI.2 pos with hn | ⟨c', oc, vs, t, hf, hm, hd, hv⟩
  · refine kla_eval hdef (kla_nest F N T C hcd (UpdF.tail ha (UpdF.tail hb (UpdF.head ?_))) hI.1 hn hcl fun f c' oc vs t ctv h' tk F' N' hd hv hlt hf => ?_)
    · intro q hq
      rcases List.mem_append.mp hq with hq | hq
      · exact hr q hq
      · exact ho q hq
    have l1 := hlt _ (List.mem_cons_self ..)
    have l2 := hlt _ (List.mem_cons_of_mem _ (List.mem_cons_self ..))
    have l3 := hlt _ (List.mem_cons_of_mem _ (List.mem_cons_of_mem _ (List.mem_cons_self ..)))
    have l4 : ∀ q ∈ rest, q.1 < c' := fun q hq => hlt q (List.mem_cons_of_mem _ (List.mem_cons_of_mem _ (List.mem_cons_of_mem _ (List.mem_append_left _ hq))))
    have l5 : ∀ q ∈ own, q.1 < c' := fun q hq => hlt q (List.mem_cons_of_mem _ (List.mem_cons_of_mem _ (List.mem_cons_of_mem _ (List.mem_append_right _ hq))))
    refine h f c' oc vs t ctv h' tk (tab ++ #[rawInt pos.line, rawInt pos.col, .ref c']) ((c', oc) :: rest) F' (fun x hx => ?_) (hI.snoc hd hv) (fun q hq => List.mem_cons_of_mem _ hq) (List.mem_cons_self ..) hd hv (fun q hq => ?_)
      ⟨Nat.lt_trans l3 hf, Nat.lt_trans l1 hf, Nat.lt_trans l2 hf, fun q hq => ?_, fun q hq => Nat.lt_trans (l5 q hq) hf⟩
    · rcases List.mem_cons.mp hx with rfl | hx
      · exact N' _ (List.mem_cons_of_mem _ (List.mem_cons_of_mem _ (List.mem_cons_self ..)))
      · rcases List.mem_cons.mp hx with rfl | hx
        · exact N' _ (List.mem_cons_of_mem _ (List.mem_cons_of_mem _ (List.mem_cons_of_mem _ (List.mem_cons_self ..))))
        · rcases List.mem_cons.mp hx with rfl | hx
          · exact N' _ (List.mem_cons_self ..)
          · rcases List.mem_cons.mp hx with rfl | hx
            · exact N' _ (List.mem_cons_of_mem _ (List.mem_cons_of_mem _ (List.mem_cons_of_mem _ (List.mem_cons_of_mem _ (List.mem_cons_self ..)))))
            · rcases List.mem_cons.mp hx with rfl | hx
              · exact N' _ (List.mem_cons_of_mem _ (List.mem_cons_self ..))
              · exact N' _ (List.mem_cons_of_mem _ (List.mem_cons_of_mem _ (List.mem_cons_of_mem _ (List.mem_cons_of_mem _ (List.mem_cons_of_mem _ hx)))))
    · rcases List.mem_cons.mp hq with rfl | hq
      · exact .inr ⟨l3, l1, l2, l5⟩
      · exact .inl hq
    · rcases List.mem_cons.mp hq with rfl | hq
      · exact hf
      · exact Nat.lt_trans (l4 q hq) hf
  · refine kla_eval hdef (kla_hit F N T C hcd (List.mem_cons_of_mem _ (List.mem_cons_of_mem _ (List.mem_cons_self ..))) hI.1 hf hcl fun f ctv h' tk F' N' hlt => ?_)
    refine h f c' oc vs t ctv h' tk tab rest F' (fun x hx => ?_) hI (fun q hq => hq) hm hd hv (fun q hq => .inl hq)
      ⟨hlt _ (List.mem_cons_of_mem _ (List.mem_cons_of_mem _ (List.mem_cons_self ..))), hlt _ (List.mem_cons_self ..), hlt _ (List.mem_cons_of_mem _ (List.mem_cons_self ..)), fun q hq => hlt q (List.mem_cons_of_mem _ (List.mem_cons_of_mem _ (List.mem_cons_of_mem _ (List.mem_append_left _ hq)))), fun q hq => hlt q (List.mem_cons_of_mem _ (List.mem_cons_of_mem _ (List.mem_cons_of_mem _ (List.mem_append_right _ hq))))⟩
    rcases List.mem_cons.mp hx with rfl | hx
    · exact N' _ (List.mem_cons_of_mem _ (List.mem_cons_self ..))
    · rcases List.mem_cons.mp hx with rfl | hx
      · exact N' _ (List.mem_cons_of_mem _ (List.mem_cons_of_mem _ (List.mem_cons_self ..)))
      · rcases List.mem_cons.mp hx with rfl | hx
        · exact N' _ (List.mem_cons_self ..)
        · exact N' _ (List.mem_cons_of_mem _ (List.mem_cons_of_mem _ (List.mem_cons_of_mem _ hx)))
end
/-- what the two insorts put together: `r k as` is the place for k in as -/
def build (r : Int → List Int → Nat) : Nat → List Int
  | 0 => []
  | k + 1 => (build r k).take (r k (build r k)) ++ (k : Int) :: (build r k).drop (r k (build r k))
def posR (lt : Int → Int → Bool) (x : Int) (as : List Int) : Nat := (as.filter fun j => !lt x j).length
def posL (lt : Int → Int → Bool) (x : Int) (as : List Int) : Nat := (as.filter fun j => lt j x).length
def PartR (lt : Int → Int → Bool) (sz : Nat) : Prop := ∀ k < sz, ∀ j (h : j < (build (posR lt) k).length), lt k (build (posR lt) k)[j] = decide ((posR lt k (build (posR lt) k) : Int) ≤ (j : Int))
def PartL (lt : Int → Int → Bool) (sz : Nat) : Prop := ∀ k < sz, ∀ j (h : j < (build (posL lt) k).length), lt (build (posL lt) k)[j] k = decide ((j : Int) < (posL lt k (build (posL lt) k) : Int))
def ltW (wd : Str) (i j : Int) : Bool := decide ((rdS wd i.toNat).cps.toList < (rdS wd j.toNat).cps.toList)
def ltH (sz st b : Nat) (i j : Int) : Bool := decide (plAt sz st b i.toNat < plAt sz st b j.toNat)
theorem build_len {r : Int → List Int → Nat} : ∀ k, (build r k).length = k
  | 0 => rfl
  | k + 1 => by
    show ((build r k).take _ ++ (k : Int) :: (build r k).drop _).length = k + 1
    rw [List.length_append, List.length_cons, List.length_take, List.length_drop, build_len k]
    omega
theorem build_mem {r : Int → List Int → Nat} : ∀ k, ∀ i ∈ build r k, 0 ≤ i ∧ i < (k : Int)
  | 0, i, h => nomatch h
  | k + 1, i, h => by
    have h' : i ∈ (build r k).take (r k (build r k)) ++ (k : Int) :: (build r k).drop (r k (build r k)) := h
    have ih := build_mem (r := r) k i
    rcases List.mem_append.mp h' with h1 | h1
    · have := ih (List.mem_of_mem_take h1)
      omega
    · rcases List.mem_cons.mp h1 with rfl | h1
      · omega
      · have := ih (List.mem_of_mem_drop h1)
        omega
abbrev lamObj (nm : String) (name qual : Str) (p1 p2 p3 ap : Pos) (mr : List (Str × Const)) (cell : Addr) (pm ctv : Value) (c' : Addr) : Obj :=
  kla_obj name qual { posonlyargs := [], args := [{ arg := "one", annotation := none, pos := ap }], vararg := none, kwonlyargs := [], kw_defaults := [], kwarg := none, defaults := [] } (.Subscript (.Name (Str.ofString nm) p1) (.Name "one" p2) p3) { kind := .function, names := [(Str.ofString "one", .local), (Str.ofString nm, .free)], isGenerator := false, isCoroutine := false, more := mr } [(Str.ofString nm, cell)] pm c' ctv
theorem strs_len {vs : List Value} {ss : List Str} (h : StrsAre vs ss) : vs.length = ss.length := by
  induction h with
  | nil => rfl
  | cons _ _ _ ih => simp [ih]
theorem strs_lt {prog : Program} {w : World} {A : Around} {E : Value → Shared → Prop} {s : Shared} {Q : Value → Shared → Prop} {rvs : List Value} {wd : Str} {sz : Nat} {i j : Int} {u v : Value} (hR : StrsAre rvs ((List.range sz).map fun k => rdS wd k)) (hi : 0 ≤ i) (hi' : i < sz) (hj : 0 ≤ j) (hj' : j < sz)
    (hu : rvs[i.toNat]? = some u) (hv : rvs[j.toNat]? = some v) (h : Q (.bool (ltW wd i j)) s) : wpAny (model prog w) A (compareOp .Lt u v) Q E s := by
  have g : ∀ k < sz, ∃ t, rvs[k]? = some (.str (rdS wd k) t) := fun k hk => hR.get k _ (by simp [hk])
  obtain ⟨t1, e1⟩ := g i.toNat (by omega)
  obtain ⟨t2, e2⟩ := g j.toNat (by omega)
  rw [e1] at hu
  rw [e2] at hv
  cases hu
  cases hv
  exact PyProof.Rows.lt_str h
theorem insRr (w : World) (p : Program) (loose : List Str) (mean : ExcName → Option Value) (mg mb : Str → Option Value)
    {dp un : Nat} {gd : Option (List Code)} {cn : Str} {cs : Scope} {a : Addr} {ccd : Value} {cl : List (Str × Addr)} {outer : List Env} {A₀ : Around} {base h₀ : Heap} {L : Addr} {m : Str → Option Value} {s : Shared} {Q E : Value → Shared → Prop}
    {name qual : Str} {p1 p2 p3 ap : Pos} {mr : List (Str × Const)} {pm ctv : Value} {b1 tb : Addr × Obj} {rest own : List (Addr × Obj)} {la lam c' cell rl : Addr} {o7 oc : Obj} {cvs : Array Value} {ct : Tok} {rvs vs : List Value} {rn nn : Nat} {wd : Str} {sz kn : Nat} {tx : Tok}
    (B : Below A₀ base outer h₀) (F : Fr h₀ L s.heap m) (X : (hd.heap_39 w.params).In h₀) (N : News h₀ L s.heap ((la, listOf vs.toArray nn) :: b1 :: (lam, lamObj "readings" name qual p1 p2 p3 ap mr cell pm ctv c') :: tb :: (rest ++ own))) (T : Top p loose mean mg mb h₀) (hk : cs.kind = .function)
    (hdp : dp + 6 < recursionLimit) (hu : un + 60 < cLine) (hvs : IntsAre vs (build (posR (ltW wd)) kn)) (hkn : kn < sz) (hs16 : sz ≤ 16) (hPW : PartR (ltW wd) sz) (hR : StrsAre rvs ((List.range sz).map fun k => rdS wd k))
    (n1 : b1.1 ≠ la) (n2 : lam ≠ la) (n3 : tb.1 ≠ la) (n4 : ∀ q ∈ rest, q.1 ≠ la) (n5 : ∀ q ∈ own, q.1 ≠ la)
    (hm7 : (cell, o7) ∈ rest) (hcm : (c', oc) ∈ rest) (hmr : (rl, listOf (List.toArray rvs) rn) ∈ rest) (d7 : o7.data = .cell (some (.ref rl))) (hdc : oc.data = .fields cvs) (hvc : cvs[1]? = some (.str qual ct))
    (hret : ∀ vs' n' h' tk', IntsAre vs' (build (posR (ltW wd)) (kn + 1)) → Fr h₀ L h' m → News h₀ L h' ((la, listOf vs'.toArray n') :: b1 :: (lam, lamObj "readings" name qual p1 p2 p3 ap mr cell pm ctv c') :: tb :: (rest ++ own)) → Q .none { s with heap := h', toks := tk' }) :
    wpAny (model prog w) (ktrTop dp un gd cn cs L a ccd cl outer) (call (.ref 30) [.ref la, .int (kn : Int) tx] [("key", .ref lam)]) Q E s := by
  have hrl : rvs.length = sz := by rw [strs_len hR, List.length_map, List.length_range]
  have hin : ∀ q ∈ rest, q ∈ b1 :: (lam, lamObj "readings" name qual p1 p2 p3 ap mr cell pm ctv c') :: tb :: (rest ++ own) := fun q hq => List.mem_cons_of_mem _ (List.mem_cons_of_mem _ (List.mem_cons_of_mem _ (List.mem_append_left _ hq)))
  refine insR w p loose mean mg mb dp un gd cn cs a ccd cl outer A₀ base h₀ L m s Q E _ la lam vs (build (posR (ltW wd)) kn) nn (kn : Int) tx hvs ?len ?hla _ ?core _ ?hdom ?hx _ _ _ _ _ (List.mem_cons_of_mem _ (List.mem_cons_self ..)) (key_readings w p loose mean mg mb name qual p1 p2 p3 ap mr lam cell c' rl o7 oc pm ctv cvs ct rvs rn d7 hdc hvc ?kl) (ltW wd) ?cmp (posR (ltW wd) kn (build (posR (ltW wd)) kn)) (hPW kn hkn) ?r0 ?rn B F X N T hk hdp hu ?ret
  case len => rw [build_len]; omega
  case hla =>
    intro q hq
    rcases List.mem_cons.mp hq with rfl | hq
    · exact n1
    · rcases List.mem_cons.mp hq with rfl | hq
      · exact n2
      · rcases List.mem_cons.mp hq with rfl | hq
        · exact n3
        · rcases List.mem_append.mp hq with hq | hq
          · exact n4 q hq
          · exact n5 q hq
  case core => exact List.forall_mem_cons.mpr ⟨List.mem_cons_of_mem _ (List.mem_cons_self ..), List.forall_mem_cons.mpr ⟨hin _ hm7, List.forall_mem_cons.mpr ⟨hin _ hcm, List.forall_mem_cons.mpr ⟨hin _ hmr, List.forall_mem_nil _⟩⟩⟩⟩
  case hdom =>
    intro i hi
    have := build_mem kn i hi
    exact ⟨this.1, by omega⟩
  case hx => exact ⟨by omega, by omega⟩
  case kl => omega
  case cmp =>
    intro i j u v hi hj hu hv A Q E s hq
    exact strs_lt hR hi.1 (by omega) hj.1 (by omega) hu hv hq
  case r0 => exact Int.natCast_nonneg _
  case rn => exact Int.ofNat_le.mpr (List.length_filter_le ..)
  case ret =>
    intro vs' n' h' tk' hW F' N'
    rw [Int.toNat_natCast] at hW
    exact hret vs' n' h' tk' hW F' N'
theorem hues_lt {prog : Program} {w : World} {A : Around} {E : Value → Shared → Prop} {s : Shared} {Q : Value → Shared → Prop} {fvs : List Value} {sz st b : Nat} {i j : Int} {u v : Value} (hok : Okp sz st b) (hF : Flt.FloatsAre fvs (huL sz st b)) (hi : 0 ≤ i) (hi' : i < sz) (hj : 0 ≤ j) (hj' : j < sz)
    (hu : fvs[i.toNat]? = some u) (hv : fvs[j.toNat]? = some v) (h : Q (.bool (ltH sz st b i j)) s) : wpAny (model prog w) A (compareOp .Lt u v) Q E s := by
  obtain ⟨t1, e1⟩ := hu_get hF (k := i.toNat) (by omega)
  obtain ⟨t2, e2⟩ := hu_get hF (k := j.toNat) (by omega)
  rw [Int.toNat_natCast] at e1 e2
  rw [e1] at hu
  rw [e2] at hv
  cases hu
  cases hv
  refine AutoFloatOps.lt_0 ?_
  obtain ⟨hsz, h0, h1, hb⟩ := hok
  have := fr_lt hsz (plAt_lt (sz := sz) (st := st) (b := b) (k := i.toNat) (by omega)) (plAt_lt (sz := sz) (st := st) (b := b) (k := j.toNat) (by omega))
  rw [show (Float64.cmp (fr (plAt sz st b i.toNat) sz) (fr (plAt sz st b j.toNat) sz) == some Ordering.lt) = _ from this]
  exact h
theorem insLh (w : World) (p : Program) (loose : List Str) (mean : ExcName → Option Value) (mg mb : Str → Option Value)
    {dp un : Nat} {gd : Option (List Code)} {cn : Str} {cs : Scope} {a : Addr} {ccd : Value} {cl : List (Str × Addr)} {outer : List Env} {A₀ : Around} {base h₀ : Heap} {L : Addr} {m : Str → Option Value} {s : Shared} {Q E : Value → Shared → Prop}
    {name qual : Str} {p1 p2 p3 ap : Pos} {mr : List (Str × Const)} {pm ctv : Value} {b1 tb : Addr × Obj} {rest own : List (Addr × Obj)} {la lam c' cell rl : Addr} {o7 oc : Obj} {cvs : Array Value} {ct : Tok} {rvs vs : List Value} {rn nn : Nat} {sz st b kn : Nat} {tx : Tok}
    (B : Below A₀ base outer h₀) (F : Fr h₀ L s.heap m) (X : (hd.heap_39 w.params).In h₀) (N : News h₀ L s.heap ((la, listOf vs.toArray nn) :: b1 :: (lam, lamObj "hues" name qual p1 p2 p3 ap mr cell pm ctv c') :: tb :: (rest ++ own))) (T : Top p loose mean mg mb h₀) (hk : cs.kind = .function)
    (hdp : dp + 6 < recursionLimit) (hu : un + 60 < cLine) (hvs : IntsAre vs (build (posL (ltH sz st b)) kn)) (hkn : kn < sz) (hs16 : sz ≤ 16) (hPH : PartL (ltH sz st b) sz) (hok : Okp sz st b) (hR : Flt.FloatsAre rvs (huL sz st b))
    (n1 : b1.1 ≠ la) (n2 : lam ≠ la) (n3 : tb.1 ≠ la) (n4 : ∀ q ∈ rest, q.1 ≠ la) (n5 : ∀ q ∈ own, q.1 ≠ la)
    (hm7 : (cell, o7) ∈ rest) (hcm : (c', oc) ∈ rest) (hmr : (rl, listOf (List.toArray rvs) rn) ∈ rest) (d7 : o7.data = .cell (some (.ref rl))) (hdc : oc.data = .fields cvs) (hvc : cvs[1]? = some (.str qual ct))
    (hret : ∀ vs' n' h' tk', IntsAre vs' (build (posL (ltH sz st b)) (kn + 1)) → Fr h₀ L h' m → News h₀ L h' ((la, listOf vs'.toArray n') :: b1 :: (lam, lamObj "hues" name qual p1 p2 p3 ap mr cell pm ctv c') :: tb :: (rest ++ own)) → Q .none { s with heap := h', toks := tk' }) :
    wpAny (model prog w) (ktrTop dp un gd cn cs L a ccd cl outer) (call (.ref 48) [.ref la, .int (kn : Int) tx] [("key", .ref lam)]) Q E s := by
  have hrl : rvs.length = sz := by rw [floats_len hR]; unfold huL; rw [List.length_map, plL_len]
  have hin : ∀ q ∈ rest, q ∈ b1 :: (lam, lamObj "hues" name qual p1 p2 p3 ap mr cell pm ctv c') :: tb :: (rest ++ own) := fun q hq => List.mem_cons_of_mem _ (List.mem_cons_of_mem _ (List.mem_cons_of_mem _ (List.mem_append_left _ hq)))
  refine insL w p loose mean mg mb dp un gd cn cs a ccd cl outer A₀ base h₀ L m s Q E _ la lam vs (build (posL (ltH sz st b)) kn) nn (kn : Int) tx hvs ?len ?hla _ ?core _ ?hdom ?hx _ _ _ _ _ (List.mem_cons_of_mem _ (List.mem_cons_self ..)) (key_hues w p loose mean mg mb name qual p1 p2 p3 ap mr lam cell c' rl o7 oc pm ctv cvs ct rvs rn d7 hdc hvc ?kl) (ltH sz st b) ?cmp (posL (ltH sz st b) kn (build (posL (ltH sz st b)) kn)) (hPH kn hkn) ?r0 ?rn B F X N T hk hdp hu ?ret
  case len => rw [build_len]; omega
  case hla =>
    intro q hq
    rcases List.mem_cons.mp hq with rfl | hq
    · exact n1
    · rcases List.mem_cons.mp hq with rfl | hq
      · exact n2
      · rcases List.mem_cons.mp hq with rfl | hq
        · exact n3
        · rcases List.mem_append.mp hq with hq | hq
          · exact n4 q hq
          · exact n5 q hq
  case core => exact List.forall_mem_cons.mpr ⟨List.mem_cons_of_mem _ (List.mem_cons_self ..), List.forall_mem_cons.mpr ⟨hin _ hm7, List.forall_mem_cons.mpr ⟨hin _ hcm, List.forall_mem_cons.mpr ⟨hin _ hmr, List.forall_mem_nil _⟩⟩⟩⟩
  case hdom =>
    intro i hi
    have := build_mem kn i hi
    exact ⟨this.1, by omega⟩
  case hx => exact ⟨by omega, by omega⟩
  case kl => omega
  case cmp =>
    intro i j u v hi hj hu hv A Q E s hq
    exact hues_lt hok hR hi.1 (by omega) hj.1 (by omega) hu hv hq
  case r0 => exact Int.natCast_nonneg _
  case rn => exact Int.ofNat_le.mpr (List.length_filter_le ..)
  case ret =>
    intro vs' n' h' tk' hW F' N'
    rw [Int.toNat_natCast] at hW
    exact hret vs' n' h' tk' hW F' N'
theorem news_ba {h₀ h : Heap} {L : Addr} {a b f t : Addr × Obj} {l : List (Addr × Obj)} (N : News h₀ L h (a :: b :: f :: t :: l)) : News h₀ L h (b :: a :: t :: l) := news_sub N (List.forall_mem_cons.mpr ⟨List.mem_cons_of_mem _ (List.mem_cons_self ..), List.forall_mem_cons.mpr ⟨List.mem_cons_self .., fun _ hq => List.mem_cons_of_mem _ (List.mem_cons_of_mem _ (List.mem_cons_of_mem _ hq))⟩⟩)
section
local macro_rules | `(tactic| walk_at "execs cons") => `(tactic| refine Stop.intro ?_)
local macro_rules | `(tactic| walk_at "pyIter ref") => `(tactic| refine Stop.intro ?_)
local macro_rules | `(tactic| walk_at "call ref") => `(tactic| refine Stop.intro ?_)
local macro_rules | `(tactic| walk_at "eval Lambda") => `(tactic| refine Stop.intro ?_)
local macro_rules | `(tactic| walk_at "last callWith ref") => `(tactic| refine Stop.intro ?_)
local macro_rules | `(tactic| walk_at "InvPostG") => `(tactic| refine Stop.intro ?_)
local macro_rules | `(tactic| walk_at "InvEndG") => `(tactic| refine Stop.intro ?_)
theorem lawE2_fr {h₀ h : Heap} {L bw bh : Addr} {u m : Str → Option Value}
    (F : Fr h₀ L h (fun y => if y = "k" then u y else kstB (fun z => if ([] : List Str).contains z then u z else (if z = Str.ofString "by_hue" then some (Value.ref bh) else if z = Str.ofString "by_word" then some (Value.ref bw) else m z)) [] y)) :
    Fr h₀ L h (fun y => if y = Str.ofString "by_hue" then some (Value.ref bh) else if y = Str.ofString "by_word" then some (Value.ref bw) else (if y = "k" then u y else m y)) := by
  refine cast (congrArg (Fr h₀ L h) (funext fun y => ?_)) F
  show (if y = "k" then u y else (if y = Str.ofString "by_hue" then some (Value.ref bh) else if y = Str.ofString "by_word" then some (Value.ref bw) else m y)) = _
  by_cases e1 : y = Str.ofString "by_hue"
  · rw [if_neg (by rw [e1]; decide), if_pos e1, if_pos e1]
  · by_cases e2 : y = Str.ofString "by_word"
    · rw [if_neg (by rw [e2]; decide), if_neg e1, if_pos e2, if_neg e1, if_pos e2]
    · rw [if_neg e1, if_neg e2, if_neg e1, if_neg e2]
theorem lawE2 (w : World) (p : Program) (loose : List Str) (mean : ExcName → Option Value) (mg mb : Str → Option Value)
    (dp un : Nat) (gd : Option (List Code)) (fa : Addr) (A₀ : Around) (base h₀ : Heap) (L : Addr) (s : Shared) (Q : Flow → Shared → Prop) (E : Value → Shared → Prop)
    (B : Below A₀ base [] h₀) (X : (hd.heap_39 w.params).In h₀) (C : CodeHd h₀ 89 87) (T : Top p loose mean mg mb h₀) (hdp : dp + 20 < recursionLimit) (hu : un + 200 < cLine) (hL87 : @LT.lt Nat _ 87 L) (hE : PassesOwn (model prog w) (ktrTop dp un gd "law" lawScope L fa (.ref 89) (lawCl L) []) (envX "law" lawScope L fa (.ref 89) (lawCl L)) E)
    (m : Str → Option Value) (bw bh rl hl pl : Addr) (rvs fvs pvs : List Value) (rn fn pn : Nat) (sz st b : Nat) (t2 : Tok) (wd : Str) (o1 o2 o3 o4 o5 o6 o7 : Obj) (hok : Okp sz st b) (hR : StrsAre rvs ((List.range sz).map fun k => rdS wd k)) (hF : Flt.FloatsAre fvs (huL sz st b))
    (d2 : o2.data = .cell (some (.int sz t2))) (d5 : o5.data = .cell (some (.ref hl))) (d7 : o7.data = .cell (some (.ref rl)))
    (ofw : OffC bw L) (ofu : OffC bh L) (ofp : OffC pl L) (ofh : OffC hl L) (ofr : OffC rl L) (ow : @Ne Nat bw rl ∧ @Ne Nat bw hl ∧ @Ne Nat bw pl) (ou : @Ne Nat bh rl ∧ @Ne Nat bh hl ∧ @Ne Nat bh pl ∧ @Ne Nat bh bw)
    (hPW : PartR (ltW wd) sz) (hPH : PartL (ltH sz st b) sz)
    (F : Fr h₀ L s.heap (fun y => if y = Str.ofString "by_hue" then some (Value.ref bh) else if y = Str.ofString "by_word" then some (Value.ref bw) else m y))
    (N : News h₀ L s.heap [(bh, listOf (List.toArray []) 0), (bw, listOf (List.toArray []) 0), (rl, listOf (List.toArray rvs) rn), (hl, listOf (List.toArray fvs) fn), (pl, listOf (List.toArray pvs) pn), (L + 1 + 1 + 1 + 1 + 1 + 1 + 1, o7), (L + 1 + 1 + 1 + 1 + 1 + 1, o6), (L + 1 + 1 + 1 + 1 + 1, o5), (L + 1 + 1 + 1 + 1, o4), (L + 1 + 1 + 1, o3), (L + 1 + 1, o2), (L + 1, o1), (87, tabObj #[])])
    (cont : ∀ vw nw vh nh tab rest (m' : Str → Option Value) h' tk', IntsAre vw (build (posR (ltW wd)) sz) → IntsAre vh (build (posL (ltH sz st b)) sz) → TabInv (Str.ofString "law" ++ ".<locals>." ++ "<lambda>") tab rest →
      (∀ q ∈ [(rl, listOf (List.toArray rvs) rn), (hl, listOf (List.toArray fvs) fn), (pl, listOf (List.toArray pvs) pn), (L + 1 + 1 + 1 + 1 + 1 + 1 + 1, o7), (L + 1 + 1 + 1 + 1 + 1 + 1, o6), (L + 1 + 1 + 1 + 1 + 1, o5), (L + 1 + 1 + 1 + 1, o4), (L + 1 + 1 + 1, o3), (L + 1 + 1, o2), (L + 1, o1)], q ∈ rest) → (∀ q ∈ rest, @Ne Nat q.1 87 ∧ @Ne Nat q.1 bw ∧ @Ne Nat q.1 bh) →
      Fr h₀ L h' (fun y => if y = Str.ofString "by_hue" then some (Value.ref bh) else if y = Str.ofString "by_word" then some (Value.ref bw) else m' y) → News h₀ L h' ((bw, listOf (List.toArray vw) nw) :: (bh, listOf (List.toArray vh) nh) :: (87, tabObj tab) :: rest) →
      wpAny (model prog w) (ktrTop dp un gd "law" lawScope L fa (.ref 89) (lawCl L) []) (execs (lawBody.drop 11) (envX "law" lawScope L fa (.ref 89) (lawCl L))) Q E { s with heap := h', toks := tk' }) :
    wpAny (model prog w) (ktrTop dp un gd "law" lawScope L fa (.ref 89) (lawCl L) []) (execs (lawBody.drop 10) (envX "law" lawScope L fa (.ref 89) (lawCl L))) Q E s := by
  have hok' := hok
  obtain ⟨hsz, hst0, hst1, hb⟩ := hok'
  have hs4 : (4 : Int) ≤ (sz : Int) := by omega
  have hs16 : (sz : Int) ≤ 16 := by omega
  conv in (execs _ _) => (arg 1; whnf)
  refine wpAny_execs_cons ?_
  with_unfolding_all refine' For_invV h₀ ?hx ?hp ?_ ?hs ?hE
  case hx => rfl
  case hp => rfl
  case hs => exact fun _ => rfl
  case hE => exact hE
  k_steps
  refine Stop.go ?_
  try dsimp only
  rename Fr _ _ _ _ => F1
  rename News _ _ _ _ => N1
  rename IsRange _ _ _ _ _ _ _ _ => R1
  have hq : ∀ q ∈ [(rl, listOf (List.toArray rvs) rn), (hl, listOf (List.toArray fvs) fn), (pl, listOf (List.toArray pvs) pn), (L + 1 + 1 + 1 + 1 + 1 + 1 + 1, o7), (L + 1 + 1 + 1 + 1 + 1 + 1, o6), (L + 1 + 1 + 1 + 1 + 1, o5), (L + 1 + 1 + 1 + 1, o4), (L + 1 + 1 + 1, o3), (L + 1 + 1, o2), (L + 1, o1)], @Ne Nat q.1 87 ∧ @Ne Nat q.1 bw ∧ @Ne Nat q.1 bh := List.forall_mem_cons.mpr ⟨⟨ofr.1, ow.1.symm, ou.1.symm⟩, List.forall_mem_cons.mpr ⟨⟨ofh.1, ow.2.1.symm, ou.2.1.symm⟩, List.forall_mem_cons.mpr ⟨⟨ofp.1, ow.2.2.symm, ou.2.2.1.symm⟩, List.forall_mem_cons.mpr ⟨⟨Nat.ne_of_gt (Nat.lt_add_right 7 hL87), (ofw.2.2.2.2.2.2.2).symm, (ofu.2.2.2.2.2.2.2).symm⟩, List.forall_mem_cons.mpr ⟨⟨Nat.ne_of_gt (Nat.lt_add_right 6 hL87), (ofw.2.2.2.2.2.2.1).symm, (ofu.2.2.2.2.2.2.1).symm⟩, List.forall_mem_cons.mpr ⟨⟨Nat.ne_of_gt (Nat.lt_add_right 5 hL87), (ofw.2.2.2.2.2.1).symm, (ofu.2.2.2.2.2.1).symm⟩, List.forall_mem_cons.mpr ⟨⟨Nat.ne_of_gt (Nat.lt_add_right 4 hL87), (ofw.2.2.2.2.1).symm, (ofu.2.2.2.2.1).symm⟩, List.forall_mem_cons.mpr ⟨⟨Nat.ne_of_gt (Nat.lt_add_right 3 hL87), (ofw.2.2.2.1).symm, (ofu.2.2.2.1).symm⟩, List.forall_mem_cons.mpr ⟨⟨Nat.ne_of_gt (Nat.lt_add_right 2 hL87), (ofw.2.2.1).symm, (ofu.2.2.1).symm⟩, List.forall_mem_cons.mpr ⟨⟨Nat.ne_of_gt (Nat.lt_add_right 1 hL87), (ofw.2.1).symm, (ofu.2.1).symm⟩, List.forall_mem_nil _⟩⟩⟩⟩⟩⟩⟩⟩⟩⟩
  have N2 : News h₀ L _ ((bw, listOf (List.toArray []) 0) :: (bh, listOf (List.toArray []) 0) :: (87, tabObj #[]) :: [(rl, listOf (List.toArray rvs) rn), (hl, listOf (List.toArray fvs) fn), (pl, listOf (List.toArray pvs) pn), (L + 1 + 1 + 1 + 1 + 1 + 1 + 1, o7), (L + 1 + 1 + 1 + 1 + 1 + 1, o6), (L + 1 + 1 + 1 + 1 + 1, o5), (L + 1 + 1 + 1 + 1, o4), (L + 1 + 1 + 1, o3), (L + 1 + 1, o2), (L + 1, o1)]) := news_rot N1
  generalize hb0 : [(rl, listOf (List.toArray rvs) rn), (hl, listOf (List.toArray fvs) fn), (pl, listOf (List.toArray pvs) pn), (L + 1 + 1 + 1 + 1 + 1 + 1 + 1, o7), (L + 1 + 1 + 1 + 1 + 1 + 1, o6), (L + 1 + 1 + 1 + 1 + 1, o5), (L + 1 + 1 + 1 + 1, o4), (L + 1 + 1 + 1, o3), (L + 1 + 1, o2), (L + 1, o1)] = base0 at hq N2
  clear N1
  with_unfolding_all refine' kst_rangeG (σ := (List Value × Nat) × (List Value × Nat) × (Array Value × List (Addr × Obj))) (n := sz) (fun c => (bw, listOf c.1.1.toArray c.1.2) :: (bh, listOf c.2.1.1.toArray c.2.1.2) :: (87, tabObj c.2.2.1) :: c.2.2.2) (fun _ => []) (fun _ => True) [] (fun pre c => IntsAre c.1.1 (build (posR (ltW wd)) pre.length) ∧ IntsAre c.2.1.1 (build (posL (ltH sz st b)) pre.length) ∧ TabInv (Str.ofString "law" ++ ".<locals>." ++ "<lambda>") c.2.2.1 c.2.2.2 ∧ (∀ q ∈ base0, q ∈ c.2.2.2) ∧ ∀ q ∈ c.2.2.2, @Ne Nat q.1 87 ∧ @Ne Nat q.1 bw ∧ @Ne Nat q.1 bh) (([], 0), ([], 0), (#[], base0)) rfl R1 ?sm ?rs F1 N2 trivial ?hk1 ?hp1 ?turn ?done
  case sm => exact small_one (by omega) (by omega) (by omega) (by omega)
  case rs => first | exact rangeSize_nat _ _ | (have := rangeSize_nat 0 sz; simpa using this)
  case hk1 => exact List.forall_mem_nil _
  case hp1 => exact ⟨.nil, .nil, TabInv.nil _ _, fun _ h => h, hq⟩
  case done =>
    intro c u h2 tk2 _ hP F2 N2
    obtain ⟨⟨vw, nw⟩, ⟨vh, nh⟩, ⟨tab, rest⟩⟩ := c
    obtain ⟨hP1, hP2, hP3, hP4, hP5⟩ := hP
    dsimp only at F2 N2 hP1 hP2 hP3 hP4 hP5
    rw [rangeKs_length] at hP1 hP2
    refine cont vw nw vh nh tab rest _ h2 tk2 hP1 hP2 hP3 (by rw [hb0]; exact hP4) hP5 (lawE2_fr F2) N2
  case turn =>
    intro c pre k t u h2 tk2 own hke hkn hoff _ hP F2 N2
    obtain ⟨⟨vw, nw⟩, ⟨vh, nh⟩, ⟨tab, rest⟩⟩ := c
    obtain ⟨hP1, hP2, hP3, hP4, hP5⟩ := hP
    dsimp only at F2 N2 hP1 hP2 hP3 hP4 hP5 hoff ⊢
    generalize hkk : pre.length = kn at hke hkn hP1 hP2
    rw [Int.zero_add] at hke
    subst hke
    simp only [List.cons_append] at N2
    conv in (execs _ _) => (arg 1; whnf)
    refine wpAny_execs_cons ?_
    have hown : ∀ q ∈ own, q.1 ≠ 87 ∧ q.1 ≠ bw ∧ q.1 ≠ bh := fun q hq => ⟨hoff q hq _ (List.mem_cons_of_mem _ (List.mem_cons_of_mem _ (List.mem_cons_self ..))), hoff q hq _ (List.mem_cons_self ..), hoff q hq _ (List.mem_cons_of_mem _ (List.mem_cons_self ..))⟩
    k_steps
    refine Stop.go ?_
    try dsimp only
    with_unfolding_all refine' lam2 (P := 87) (c := 89) (own := own) (rest := rest) (tab := tab) (a1 := (bw, listOf vw.toArray nw)) (b1 := (bh, listOf vh.toArray nh)) F2 N2 T C rfl hP3 ofw.1 ofu.1 (fun q hq => (hP5 q hq).1) (fun q hq => (hown q hq).1) rfl rfl ?_
    intro f c' oc vs t1 ctv h3 tk3 tab' rest' F3 N3 hI3 hsub hcm hdc hvc hnew hf
    clear F1
    k_steps
    refine Stop.go ?_
    have hm7 : (L + 1 + 1 + 1 + 1 + 1 + 1 + 1, o7) ∈ base0 := by rw [← hb0]; exact List.mem_cons_of_mem _ (List.mem_cons_of_mem _ (List.mem_cons_of_mem _ (List.mem_cons_self ..)))
    have hmr : (rl, listOf (List.toArray rvs) rn) ∈ base0 := by rw [← hb0]; exact List.mem_cons_self ..
    have hr5 : ∀ q ∈ rest', @Ne Nat q.1 87 ∧ @Ne Nat q.1 bw ∧ @Ne Nat q.1 bh := fun q hq => (hnew q hq).elim (fun h => hP5 q h) fun h => ⟨Nat.ne_of_gt h.1, Nat.ne_of_gt h.2.1, Nat.ne_of_gt h.2.2.1⟩
    with_unfolding_all refine' insRr w p loose mean mg mb B F3 X N3 T rfl ?d ?u hP1 hkn (by omega) hPW hR ou.2.2.2 (Nat.ne_of_gt hf.2.1) (Ne.symm ofw.1) (fun q hq => (hr5 q hq).2.1) (fun q hq => (hown q hq).2.1) (hsub _ (hP4 _ hm7)) hcm (hsub _ (hP4 _ hmr)) d7 hdc hvc ?_
    case d => ktr_room
    case u => ktr_units
    intro vw' nw' h4 tk4 hW4 F4 N4
    clear F2 N2 F3 N3
    k_steps
    refine Stop.go (wpAny_execs_cons ?_)
    try dsimp only
    have N5 := news_ba N4
    clear N4
    k_steps
    refine Stop.go ?_
    try dsimp only
    with_unfolding_all refine' lam2 (P := 87) (c := 89) (own := own) (rest := rest') (tab := tab') (a1 := (bh, listOf vh.toArray nh)) (b1 := (bw, listOf vw'.toArray nw')) F4 N5 T C rfl hI3 ofu.1 ofw.1 (fun q hq => (hr5 q hq).1) (fun q hq => (hown q hq).1) rfl rfl ?_
    intro f2 c2 oc2 vs2 t5 ctv2 h5 tk5 tab2 rest2 F6 N6 hI6 hsub2 hcm2 hdc2 hvc2 hnew2 hf2
    k_steps
    refine Stop.go ?_
    have hm5 : (L + 1 + 1 + 1 + 1 + 1, o5) ∈ base0 := by rw [← hb0]; exact List.mem_cons_of_mem _ (List.mem_cons_of_mem _ (List.mem_cons_of_mem _ (List.mem_cons_of_mem _ (List.mem_cons_of_mem _ (List.mem_cons_self ..)))))
    have hmh : (hl, listOf (List.toArray fvs) fn) ∈ base0 := by rw [← hb0]; exact List.mem_cons_of_mem _ (List.mem_cons_self ..)
    have hr6 : ∀ q ∈ rest2, @Ne Nat q.1 87 ∧ @Ne Nat q.1 bw ∧ @Ne Nat q.1 bh := fun q hq => (hnew2 q hq).elim (fun h => hr5 q h) fun h => ⟨Nat.ne_of_gt h.1, Nat.ne_of_gt h.2.2.1, Nat.ne_of_gt h.2.1⟩
    with_unfolding_all refine' insLh w p loose mean mg mb B F6 X N6 T rfl ?d2 ?u2 hP2 hkn (by omega) hPH hok hF (Ne.symm ou.2.2.2) (Nat.ne_of_gt hf2.2.1) (Ne.symm ofu.1) (fun q hq => (hr6 q hq).2.2) (fun q hq => (hown q hq).2.2) (hsub2 _ (hsub _ (hP4 _ hm5))) hcm2 (hsub2 _ (hsub _ (hP4 _ hmh))) d5 hdc2 hvc2 ?_
    case d2 => ktr_room
    case u2 => ktr_units
    intro vh' nh' h6 tk6 hH6 F7 N7
    clear F4 N5 F6 N6
    k_steps
    refine Stop.go ?_
    dsimp only [InvPostG]
    have e9 : (pre ++ [(kn : Int)]).length = kn + 1 := by rw [List.length_append, hkk]; rfl
    with_unfolding_all refine' kst_endG ((vw', nw'), (vh', nh'), (tab2, rest2)) F7 N7 ?hn ?ho ?ha trivial ?hk2 ?hr2 ?hp2
    case hn => exact List.forall_mem_cons.mpr ⟨List.mem_cons_of_mem _ (List.mem_cons_self ..), List.forall_mem_cons.mpr ⟨List.mem_cons_self .., List.forall_mem_cons.mpr ⟨List.mem_cons_of_mem _ (List.mem_cons_of_mem _ (List.mem_cons_of_mem _ (List.mem_cons_self ..))), fun q hq => List.mem_cons_of_mem _ (List.mem_cons_of_mem _ (List.mem_cons_of_mem _ (List.mem_cons_of_mem _ (List.mem_append_left _ hq))))⟩⟩⟩
    case ho => exact fun q hq => List.mem_cons_of_mem _ (List.mem_cons_of_mem _ (List.mem_cons_of_mem _ (List.mem_cons_of_mem _ (List.mem_append_right _ hq))))
    case ha =>
      intro q hq9 x hx
      rcases List.mem_cons.mp hx with e | hx
      · rw [e]; exact (hown q hq9).2.1
      · rcases List.mem_cons.mp hx with e | hx
        · rw [e]; exact (hown q hq9).2.2
        · rcases List.mem_cons.mp hx with e | hx
          · rw [e]; exact (hown q hq9).1
          · obtain ⟨y, hy, e⟩ := List.mem_map.mp hx
            rw [← e]
            rcases hnew2 y hy with h1 | h1
            · rcases hnew y h1 with h2 | h2
              · exact hoff q hq9 _ (List.mem_cons_of_mem _ (List.mem_cons_of_mem _ (List.mem_cons_of_mem _ (List.mem_map_of_mem h2))))
              · exact Nat.ne_of_lt (h2.2.2.2 q hq9)
            · exact Nat.ne_of_lt (h1.2.2.2 q hq9)
    case hk2 => exact List.forall_mem_nil _
    case hr2 =>
      intro z hz _ _
      show (if z = _ then _ else _) = _
      rw [if_neg hz]
      rfl
    case hp2 =>
      rw [e9]
      exact ⟨hW4, hH6, hI6, fun q hq => hsub2 _ (hsub _ (hP4 q hq)), hr6⟩
end
abbrev rgObj (ra rb rc : Int) (t u v : Tok) : Obj := { cls := .type "range", dict := none, data := .fields #[.int ra t, .int rb u, .int rc v], slots := #[] }
theorem sortPl (w : World) (p : Program) (loose : List Str) (mean : ExcName → Option Value) (mg mb : Str → Option Value)
    {dp un : Nat} {gd : Option (List Code)} {cn : Str} {cs : Scope} {a : Addr} {ccd : Value} {cl : List (Str × Addr)} {outer : List Env} {A₀ : Around} {base h₀ : Heap} {L : Addr} {m : Str → Option Value} {s : Shared} {Q E : Value → Shared → Prop}
    {name qual : Str} {p1 p2 p3 ap : Pos} {mr : List (Str × Const)} {pm ctv : Value} {a1 b1 tb : Addr × Obj} {rest : List (Addr × Obj)} {lam c' cell pl r : Addr} {o6 oc : Obj} {cvs : Array Value} {ct : Tok} {pvs : List Value} {pn : Nat} {ra rb rc : Int} {t u v : Tok} {n : Nat} {ks : List Int} (kz : List Int)
    (B : Below A₀ base outer h₀) (F : Fr h₀ L s.heap m) (X : (hd.heap_39 w.params).In h₀) (N : News h₀ L s.heap (a1 :: b1 :: (lam, lamObj "places" name qual p1 p2 p3 ap mr cell pm ctv c') :: tb :: (rest ++ [(r, rgObj ra rb rc t u v)]))) (T : Top p loose mean mg mb h₀) (hk : cs.kind = .function)
    (hdp : dp + 6 < recursionLimit) (hu : un + 60 < cLine) (hP : IntsAre pvs ks) (hl : pvs.length ≤ 16) (hdom : ∀ i : Nat, i < n → 0 ≤ ra + (i : Int) * rc ∧ ra + (i : Int) * rc < pvs.length)
    (hkz : ∀ i : Nat, i < n → ks[(ra + (i : Int) * rc).toNat]? = some (kz.getD i 0)) (hsmall : Builtin.Range.small ra rb rc = true) (hn : Builtin.Range.rangeSize ra rb rc = n) (hlen : kz.length = n) (h2 : 2 ≤ n) (h64 : n < 64) (hok : sortOk kz = true)
    (hm6 : (cell, o6) ∈ rest) (hcm : (c', oc) ∈ rest) (hmp : (pl, listOf (List.toArray pvs) pn) ∈ rest) (d6 : o6.data = .cell (some (.ref pl))) (hdc : oc.data = .fields cvs) (hvc : cvs[1]? = some (.str qual ct))
    (hret : ∀ D h' tk vs c', Fr h₀ L h' m → News h₀ L h' ((D, listOf (List.toArray vs) c') :: a1 :: b1 :: tb :: rest) → IntsAre vs ((sortIdx kz).map fun i : Nat => ra + (i : Int) * rc) → Q (.ref D) { s with heap := h', toks := tk }) :
    wpAny (model prog w) (ktrTop dp un gd cn cs L a ccd cl outer) (call (.builtin "sorted") [.ref r] [(Str.ofString "key", .ref lam)]) Q E s := by
  have hin : ∀ q ∈ rest, q ∈ a1 :: b1 :: (lam, lamObj "places" name qual p1 p2 p3 ap mr cell pm ctv c') :: tb :: (rest ++ [(r, rgObj ra rb rc t u v)]) := fun q hq => List.mem_cons_of_mem _ (List.mem_cons_of_mem _ (List.mem_cons_of_mem _ (List.mem_cons_of_mem _ (List.mem_append_left _ hq))))
  refine sortC w p loose mean mg mb dp un gd cn cs a ccd cl outer A₀ base h₀ L m s Q E _ r lam ra rb rc t u v n kz _ ?core _ _ (key_places w p loose mean mg mb name qual p1 p2 p3 ap mr lam cell c' pl o6 oc pm ctv cvs ct pvs pn d6 hdc hvc hl) hdom ?kv (N.get (List.mem_cons_of_mem _ (List.mem_cons_of_mem _ (List.mem_cons_of_mem _ (List.mem_cons_of_mem _ (List.mem_append_right _ (List.mem_singleton.mpr rfl))))))) hsmall hn hlen h2 h64 hok B F X N T hk hdp hu ?ret
  case core => exact List.forall_mem_cons.mpr ⟨List.mem_cons_of_mem _ (List.mem_cons_of_mem _ (List.mem_cons_self ..)), List.forall_mem_cons.mpr ⟨hin _ hm6, List.forall_mem_cons.mpr ⟨hin _ hcm, List.forall_mem_cons.mpr ⟨hin _ hmp, List.forall_mem_nil _⟩⟩⟩⟩
  case kv =>
    intro i x hi hx
    obtain ⟨t, ht⟩ := hP.get _ _ (hkz i hi)
    rw [ht] at hx
    cases hx
    exact ⟨t, rfl⟩
  case ret =>
    intro D h' tk vs c' F' N' _ hI
    refine hret D h' tk vs c' F' (news_sub N' ?_) hI
    refine List.forall_mem_cons.mpr ⟨List.mem_cons_self .., List.forall_mem_cons.mpr ⟨List.mem_cons_of_mem _ (List.mem_cons_self ..), List.forall_mem_cons.mpr ⟨List.mem_cons_of_mem _ (List.mem_cons_of_mem _ (List.mem_cons_self ..)), List.forall_mem_cons.mpr ⟨?_, fun q hq => ?_⟩⟩⟩⟩
    · exact List.mem_cons_of_mem _ (List.mem_cons_of_mem _ (List.mem_cons_of_mem _ (List.mem_cons_of_mem _ (List.mem_cons_self ..))))
    · exact List.mem_cons_of_mem _ (hin q hq)
theorem news_rg {h₀ h h' : Heap} {L : Addr} {m : Str → Option Value} {a b c d : Addr × Obj} {l : List (Addr × Obj)} {ra rb rc : Int} {t u v : Tok} (F : Fr h₀ L h m) (R : IsRange h' h.objs.size ra rb rc t u v) (N : News h₀ L h' (a :: b :: c :: d :: l)) :
    News h₀ L h' (a :: b :: c :: ((d :: l) ++ [(h.objs.size, rgObj ra rb rc t u v)])) := by
  intro q hq
  have e : a :: b :: c :: ((d :: l) ++ [(h.objs.size, rgObj ra rb rc t u v)]) = (a :: b :: c :: d :: l) ++ [(h.objs.size, rgObj ra rb rc t u v)] := by simp
  rw [e] at hq
  rcases List.mem_append.mp hq with hq | hq
  · exact N q hq
  · rw [List.mem_singleton.mp hq]
    exact ⟨R, Nat.ne_of_gt F.ns.lt, next_is_new F⟩
/-- the keys of range(size - 1, -1, -1) -/
def plR (sz st b : Nat) : List Int := (List.range sz).map fun i => ((plAt sz st b (sz - 1 - i) : Nat) : Int)
theorem plR_len {sz st b : Nat} : (plR sz st b).length = sz := by unfold plR; rw [List.length_map, List.length_range]
theorem plR_get {sz st b i : Nat} (hi : i < sz) : (plL sz st b)[sz - 1 - i]? = some ((plR sz st b).getD i 0) := by
  have h1 : sz - 1 - i < sz := by omega
  unfold plL plR
  simp [List.getD_eq_getElem?_getD, hi, h1]
theorem back_sm {sz : Nat} (h : sz = 4 ∨ sz = 8 ∨ sz = 16) : Builtin.Range.small ((sz : Int) - 1) (-1) (-1) = true := by
  rcases h with rfl | rfl | rfl <;> decide
theorem back_rs {sz : Nat} (h : sz = 4 ∨ sz = 8 ∨ sz = 16) : Builtin.Range.rangeSize ((sz : Int) - 1) (-1) (-1) = (sz : Int) := by
  rcases h with rfl | rfl | rfl <;> decide
section
local macro_rules | `(tactic| walk_at "execs cons") => `(tactic| refine Stop.intro ?_)
local macro_rules | `(tactic| walk_at "eval Lambda") => `(tactic| refine Stop.intro ?_)
local macro_rules | `(tactic| walk_at "call builtin:sorted") => `(tactic| refine Stop.intro ?_)
local macro_rules | `(tactic| walk_at "compareOp NotEq ref ref") => `(tactic| refine Stop.intro ?_)
theorem lawF1 (w : World) (p : Program) (loose : List Str) (mean : ExcName → Option Value) (mg mb : Str → Option Value)
    (dp un : Nat) (gd : Option (List Code)) (fa : Addr) (A₀ : Around) (base h₀ : Heap) (L : Addr) (s : Shared) (Q : Flow → Shared → Prop) (E : Value → Shared → Prop)
    (B : Below A₀ base [] h₀) (X : (hd.heap_39 w.params).In h₀) (C : CodeHd h₀ 89 87) (T : Top p loose mean mg mb h₀) (hdp : dp + 20 < recursionLimit) (hu : un + 200 < cLine) (hL87 : @LT.lt Nat _ 87 L)
    (m : Str → Option Value) (bw bh rl hl pl : Addr) (vw vh rvs fvs pvs : List Value) (nw nh rn fn pn : Nat) (sz st b : Nat) (t2 : Tok) (o1 o2 o3 o4 o5 o6 o7 : Obj) (tab : Array Value) (rest : List (Addr × Obj)) (W : List Int) (hok : Okp sz st b)
    (hW : IntsAre vw W) (hWl : W.length = sz) (hP : IntsAre pvs (plL sz st b)) (hI : TabInv (Str.ofString "law" ++ ".<locals>." ++ "<lambda>") tab rest)
    (hb : ∀ q ∈ [(rl, listOf (List.toArray rvs) rn), (hl, listOf (List.toArray fvs) fn), (pl, listOf (List.toArray pvs) pn), (L + 1 + 1 + 1 + 1 + 1 + 1 + 1, o7), (L + 1 + 1 + 1 + 1 + 1 + 1, o6), (L + 1 + 1 + 1 + 1 + 1, o5), (L + 1 + 1 + 1 + 1, o4), (L + 1 + 1 + 1, o3), (L + 1 + 1, o2), (L + 1, o1)], q ∈ rest) (hq : ∀ q ∈ rest, @Ne Nat q.1 87 ∧ @Ne Nat q.1 bw ∧ @Ne Nat q.1 bh)
    (d2 : o2.data = .cell (some (.int sz t2))) (d6 : o6.data = .cell (some (.ref pl))) (ofw : OffC bw L) (ofu : OffC bh L) (ofp : OffC pl L) 
    (hso : sortOk (plL sz st b) = true) (heq : W = (sortIdx (plL sz st b)).map fun i : Nat => (0 : Int) + (i : Int) * 1)
    (F : Fr h₀ L s.heap (fun y => if y = Str.ofString "by_hue" then some (Value.ref bh) else if y = Str.ofString "by_word" then some (Value.ref bw) else m y))
    (N : News h₀ L s.heap ((bw, listOf (List.toArray vw) nw) :: (bh, listOf (List.toArray vh) nh) :: (87, tabObj tab) :: rest))
    (cont : ∀ tab rest h' tk', TabInv (Str.ofString "law" ++ ".<locals>." ++ "<lambda>") tab rest →
      (∀ q ∈ [(rl, listOf (List.toArray rvs) rn), (hl, listOf (List.toArray fvs) fn), (pl, listOf (List.toArray pvs) pn), (L + 1 + 1 + 1 + 1 + 1 + 1 + 1, o7), (L + 1 + 1 + 1 + 1 + 1 + 1, o6), (L + 1 + 1 + 1 + 1 + 1, o5), (L + 1 + 1 + 1 + 1, o4), (L + 1 + 1 + 1, o3), (L + 1 + 1, o2), (L + 1, o1)], q ∈ rest) → (∀ q ∈ rest, @Ne Nat q.1 87 ∧ @Ne Nat q.1 bw ∧ @Ne Nat q.1 bh) →
      Fr h₀ L h' (fun y => if y = Str.ofString "by_hue" then some (Value.ref bh) else if y = Str.ofString "by_word" then some (Value.ref bw) else m y) → News h₀ L h' ((bw, listOf (List.toArray vw) nw) :: (bh, listOf (List.toArray vh) nh) :: (87, tabObj tab) :: rest) →
      wpAny (model prog w) (ktrTop dp un gd "law" lawScope L fa (.ref 89) (lawCl L) []) (execs (lawBody.drop 12) (envX "law" lawScope L fa (.ref 89) (lawCl L))) Q E { s with heap := h', toks := tk' }) :
    wpAny (model prog w) (ktrTop dp un gd "law" lawScope L fa (.ref 89) (lawCl L) []) (execs (lawBody.drop 11) (envX "law" lawScope L fa (.ref 89) (lawCl L))) Q E s := by
  have hok' := hok
  obtain ⟨hsz, hst0, hst1, hbs⟩ := hok'
  have hs4 : (4 : Int) ≤ (sz : Int) := by omega
  have hs16 : (sz : Int) ≤ 16 := by omega
  have hm2 : (L + 1 + 1, o2) ∈ rest := hb _ (List.mem_cons_of_mem _ (List.mem_cons_of_mem _ (List.mem_cons_of_mem _ (List.mem_cons_of_mem _ (List.mem_cons_of_mem _ (List.mem_cons_of_mem _ (List.mem_cons_of_mem _ (List.mem_cons_of_mem _ (List.mem_cons_self ..)))))))))
  have hm6 : (L + 1 + 1 + 1 + 1 + 1 + 1, o6) ∈ rest := hb _ (List.mem_cons_of_mem _ (List.mem_cons_of_mem _ (List.mem_cons_of_mem _ (List.mem_cons_of_mem _ (List.mem_cons_self ..)))))
  have hmp : (pl, listOf (List.toArray pvs) pn) ∈ rest := hb _ (List.mem_cons_of_mem _ (List.mem_cons_of_mem _ (List.mem_cons_self ..)))
  replace N : News h₀ L s.heap ((bw, listOf (List.toArray vw) nw) :: (bh, listOf (List.toArray vh) nh) :: (87, tabObj tab) :: (L + 1 + 1, o2) :: rest) := news_sub N (List.forall_mem_cons.mpr ⟨List.mem_cons_self .., List.forall_mem_cons.mpr ⟨List.mem_cons_of_mem _ (List.mem_cons_self ..), List.forall_mem_cons.mpr ⟨List.mem_cons_of_mem _ (List.mem_cons_of_mem _ (List.mem_cons_self ..)), List.forall_mem_cons.mpr ⟨List.mem_cons_of_mem _ (List.mem_cons_of_mem _ (List.mem_cons_of_mem _ hm2)), fun q hq => List.mem_cons_of_mem _ (List.mem_cons_of_mem _ (List.mem_cons_of_mem _ hq))⟩⟩⟩⟩)
  conv in (execs _ _) => (arg 1; whnf)
  refine wpAny_execs_cons ?_
  k_steps
  refine Stop.go ?_
  try dsimp only
  rename IsRange _ _ _ _ _ _ _ _ => R1
  rename Fr _ _ _ _ => F1
  rename News _ _ _ _ => N1
  rename Fr _ _ s.heap _ => F0
  have N2 := news_rg F0 R1 N1
  have hrL : @LT.lt Nat _ L s.heap.objs.size := F0.ns.lt
  generalize s.heap.objs.size = r at R1 N2 hrL ⊢
  clear N1 R1 F0
  have hr2 : ∀ q ∈ (L + 1 + 1, o2) :: rest, @Ne Nat q.1 87 ∧ @Ne Nat q.1 bw ∧ @Ne Nat q.1 bh := List.forall_mem_cons.mpr ⟨hq _ hm2, hq⟩
  with_unfolding_all refine' lam2 (P := 87) (c := 89) (rest := (L + 1 + 1, o2) :: rest) (tab := tab) (a1 := (bw, listOf vw.toArray nw)) (b1 := (bh, listOf vh.toArray nh)) F1 N2 T C rfl (hI.mono fun q hq => List.mem_cons_of_mem _ hq) ofw.1 ofu.1 (fun q hq => (hr2 q hq).1) (fun q hq => ?_) rfl rfl ?_
  · rw [List.mem_singleton.mp hq]
    exact Nat.ne_of_gt (Nat.lt_trans hL87 hrL)
  intro f c' oc vs t1 ctv h3 tk3 tab' rest' F3 N3 hI3 hsub hcm hdc hvc hnew hf
  clear F1 N2
  k_steps
  refine Stop.go ?_
  try dsimp only
  have hpl : pvs.length = sz := by rw [hP.length, plL_len]
  with_unfolding_all refine' sortPl w p loose mean mg mb (n := sz) (plL sz st b) B F3 X N3 T rfl ?d ?u hP (by omega) ?dom ?kz ?sm ?rs plL_len (by omega) (by omega) hso (hsub _ (List.mem_cons_of_mem _ hm6)) hcm (hsub _ (List.mem_cons_of_mem _ hmp)) d6 hdc hvc ?_
  case d => ktr_room
  case u => ktr_units
  case dom => intro i hi; omega
  case kz =>
    intro i hi
    rw [show ((0 : Int) + (i : Int) * 1).toNat = i by omega]
    have hi' : i < (plL sz st b).length := by rw [plL_len]; exact hi
    simp [List.getD_eq_getElem?_getD, hi']
  case sm => exact small_one (by omega) (by omega) (by omega) (by omega)
  case rs => first | exact rangeSize_nat _ _ | (have := rangeSize_nat 0 sz; simpa using this)
  intro D h4 tk4 vs9 n9 F4 N4 hI4
  clear F3 N3
  k_steps
  refine Stop.go ?_
  try dsimp only
  rw [← heq] at hI4
  refine ke_ne_ints (xs := vw) (ys := vs9) (ns := W) (ms := W) ⟨_, (N4.get (List.mem_cons_of_mem _ (List.mem_cons_self ..))), rfl, _, rfl⟩ ⟨_, (N4.get (List.mem_cons_self ..)), rfl, _, rfl⟩ hW hI4 (by ktr_units) ?_
  rw [decide_eq_true rfl]
  replace N4 := news_sub (b := (bw, listOf (List.toArray vw) nw) :: (bh, listOf (List.toArray vh) nh) :: (87, tabObj tab') :: rest') N4 fun q hq => List.mem_cons_of_mem _ hq
  k_steps
  refine Stop.go ?_
  exact cont tab' rest' h4 _ hI3 (fun q hq => hsub _ (List.mem_cons_of_mem _ (hb q hq))) (fun q hq => (hnew q hq).elim (hr2 q) fun h => ⟨Nat.ne_of_gt h.1, Nat.ne_of_gt h.2.1, Nat.ne_of_gt h.2.2.1⟩) F4 N4
theorem lawF2 (w : World) (p : Program) (loose : List Str) (mean : ExcName → Option Value) (mg mb : Str → Option Value)
    (dp un : Nat) (gd : Option (List Code)) (fa : Addr) (A₀ : Around) (base h₀ : Heap) (L : Addr) (s : Shared) (Q : Flow → Shared → Prop) (E : Value → Shared → Prop)
    (B : Below A₀ base [] h₀) (X : (hd.heap_39 w.params).In h₀) (C : CodeHd h₀ 89 87) (T : Top p loose mean mg mb h₀) (hdp : dp + 20 < recursionLimit) (hu : un + 200 < cLine) (hL87 : @LT.lt Nat _ 87 L)
    (m : Str → Option Value) (bw bh rl hl pl : Addr) (vw vh rvs fvs pvs : List Value) (nw nh rn fn pn : Nat) (sz st b : Nat) (t2 : Tok) (o1 o2 o3 o4 o5 o6 o7 : Obj) (tab : Array Value) (rest : List (Addr × Obj)) (H : List Int) (hok : Okp sz st b)
    (hH : IntsAre vh H) (hHl : H.length = sz) (hP : IntsAre pvs (plL sz st b)) (hI : TabInv (Str.ofString "law" ++ ".<locals>." ++ "<lambda>") tab rest)
    (hb : ∀ q ∈ [(rl, listOf (List.toArray rvs) rn), (hl, listOf (List.toArray fvs) fn), (pl, listOf (List.toArray pvs) pn), (L + 1 + 1 + 1 + 1 + 1 + 1 + 1, o7), (L + 1 + 1 + 1 + 1 + 1 + 1, o6), (L + 1 + 1 + 1 + 1 + 1, o5), (L + 1 + 1 + 1 + 1, o4), (L + 1 + 1 + 1, o3), (L + 1 + 1, o2), (L + 1, o1)], q ∈ rest) (hq : ∀ q ∈ rest, @Ne Nat q.1 87 ∧ @Ne Nat q.1 bw ∧ @Ne Nat q.1 bh)
    (d2 : o2.data = .cell (some (.int sz t2))) (d6 : o6.data = .cell (some (.ref pl))) (ofw : OffC bw L) (ofu : OffC bh L) (ofp : OffC pl L) 
    (hso : sortOk (plR sz st b) = true) (heq : H = (sortIdx (plR sz st b)).map fun i : Nat => ((sz : Int) - 1) + (i : Int) * (-1))
    (F : Fr h₀ L s.heap (fun y => if y = Str.ofString "by_hue" then some (Value.ref bh) else if y = Str.ofString "by_word" then some (Value.ref bw) else m y))
    (N : News h₀ L s.heap ((bw, listOf (List.toArray vw) nw) :: (bh, listOf (List.toArray vh) nh) :: (87, tabObj tab) :: rest))
    (cont : ∀ tab rest h' tk', TabInv (Str.ofString "law" ++ ".<locals>." ++ "<lambda>") tab rest →
      (∀ q ∈ [(rl, listOf (List.toArray rvs) rn), (hl, listOf (List.toArray fvs) fn), (pl, listOf (List.toArray pvs) pn), (L + 1 + 1 + 1 + 1 + 1 + 1 + 1, o7), (L + 1 + 1 + 1 + 1 + 1 + 1, o6), (L + 1 + 1 + 1 + 1 + 1, o5), (L + 1 + 1 + 1 + 1, o4), (L + 1 + 1 + 1, o3), (L + 1 + 1, o2), (L + 1, o1)], q ∈ rest) → (∀ q ∈ rest, @Ne Nat q.1 87 ∧ @Ne Nat q.1 bw ∧ @Ne Nat q.1 bh) →
      Fr h₀ L h' (fun y => if y = Str.ofString "by_hue" then some (Value.ref bh) else if y = Str.ofString "by_word" then some (Value.ref bw) else m y) → News h₀ L h' ((bw, listOf (List.toArray vw) nw) :: (bh, listOf (List.toArray vh) nh) :: (87, tabObj tab) :: rest) →
      wpAny (model prog w) (ktrTop dp un gd "law" lawScope L fa (.ref 89) (lawCl L) []) (execs (lawBody.drop 13) (envX "law" lawScope L fa (.ref 89) (lawCl L))) Q E { s with heap := h', toks := tk' }) :
    wpAny (model prog w) (ktrTop dp un gd "law" lawScope L fa (.ref 89) (lawCl L) []) (execs (lawBody.drop 12) (envX "law" lawScope L fa (.ref 89) (lawCl L))) Q E s := by
  have hok' := hok
  obtain ⟨hsz, hst0, hst1, hbs⟩ := hok'
  have hs4 : (4 : Int) ≤ (sz : Int) := by omega
  have hs16 : (sz : Int) ≤ 16 := by omega
  have hm2 : (L + 1 + 1, o2) ∈ rest := hb _ (List.mem_cons_of_mem _ (List.mem_cons_of_mem _ (List.mem_cons_of_mem _ (List.mem_cons_of_mem _ (List.mem_cons_of_mem _ (List.mem_cons_of_mem _ (List.mem_cons_of_mem _ (List.mem_cons_of_mem _ (List.mem_cons_self ..)))))))))
  have hm6 : (L + 1 + 1 + 1 + 1 + 1 + 1, o6) ∈ rest := hb _ (List.mem_cons_of_mem _ (List.mem_cons_of_mem _ (List.mem_cons_of_mem _ (List.mem_cons_of_mem _ (List.mem_cons_self ..)))))
  have hmp : (pl, listOf (List.toArray pvs) pn) ∈ rest := hb _ (List.mem_cons_of_mem _ (List.mem_cons_of_mem _ (List.mem_cons_self ..)))
  replace N : News h₀ L s.heap ((bw, listOf (List.toArray vw) nw) :: (bh, listOf (List.toArray vh) nh) :: (87, tabObj tab) :: (L + 1 + 1, o2) :: rest) := news_sub N (List.forall_mem_cons.mpr ⟨List.mem_cons_self .., List.forall_mem_cons.mpr ⟨List.mem_cons_of_mem _ (List.mem_cons_self ..), List.forall_mem_cons.mpr ⟨List.mem_cons_of_mem _ (List.mem_cons_of_mem _ (List.mem_cons_self ..)), List.forall_mem_cons.mpr ⟨List.mem_cons_of_mem _ (List.mem_cons_of_mem _ (List.mem_cons_of_mem _ hm2)), fun q hq => List.mem_cons_of_mem _ (List.mem_cons_of_mem _ (List.mem_cons_of_mem _ hq))⟩⟩⟩⟩)
  conv in (execs _ _) => (arg 1; whnf)
  refine wpAny_execs_cons ?_
  k_steps
  refine Stop.go ?_
  try dsimp only
  rename IsRange _ _ _ _ _ _ _ _ => R1
  rename Fr _ _ _ _ => F1
  rename News _ _ _ _ => N1
  rename Fr _ _ s.heap _ => F0
  have N2 := news_rg F0 R1 N1
  have hrL : @LT.lt Nat _ L s.heap.objs.size := F0.ns.lt
  generalize s.heap.objs.size = r at R1 N2 hrL ⊢
  clear N1 R1 F0
  have hr2 : ∀ q ∈ (L + 1 + 1, o2) :: rest, @Ne Nat q.1 87 ∧ @Ne Nat q.1 bw ∧ @Ne Nat q.1 bh := List.forall_mem_cons.mpr ⟨hq _ hm2, hq⟩
  with_unfolding_all refine' lam2 (P := 87) (c := 89) (rest := (L + 1 + 1, o2) :: rest) (tab := tab) (a1 := (bw, listOf vw.toArray nw)) (b1 := (bh, listOf vh.toArray nh)) F1 N2 T C rfl (hI.mono fun q hq => List.mem_cons_of_mem _ hq) ofw.1 ofu.1 (fun q hq => (hr2 q hq).1) (fun q hq => ?_) rfl rfl ?_
  · rw [List.mem_singleton.mp hq]
    exact Nat.ne_of_gt (Nat.lt_trans hL87 hrL)
  intro f c' oc vs t1 ctv h3 tk3 tab' rest' F3 N3 hI3 hsub hcm hdc hvc hnew hf
  clear F1 N2
  k_steps
  refine Stop.go ?_
  try dsimp only
  have hpl : pvs.length = sz := by rw [hP.length, plL_len]
  with_unfolding_all refine' sortPl w p loose mean mg mb (n := sz) (plR sz st b) B F3 X N3 T rfl ?d ?u hP (by omega) ?dom ?kz ?sm ?rs plR_len (by omega) (by omega) hso (hsub _ (List.mem_cons_of_mem _ hm6)) hcm (hsub _ (List.mem_cons_of_mem _ hmp)) d6 hdc hvc ?_
  case d => ktr_room
  case u => ktr_units
  case dom => intro i hi; omega
  case kz =>
    intro i hi
    rw [show (((sz : Int) - 1) + (i : Int) * (-1)).toNat = sz - 1 - i by omega]
    exact plR_get hi
  case sm => exact back_sm hsz
  case rs => exact back_rs hsz
  intro D h4 tk4 vs9 n9 F4 N4 hI4
  clear F3 N3
  k_steps
  refine Stop.go ?_
  try dsimp only
  rw [← heq] at hI4
  refine ke_ne_ints (xs := vh) (ys := vs9) (ns := H) (ms := H) ⟨_, (N4.get (List.mem_cons_of_mem _ (List.mem_cons_of_mem _ (List.mem_cons_self ..)))), rfl, _, rfl⟩ ⟨_, (N4.get (List.mem_cons_self ..)), rfl, _, rfl⟩ hH hI4 (by ktr_units) ?_
  rw [decide_eq_true rfl]
  replace N4 := news_sub (b := (bw, listOf (List.toArray vw) nw) :: (bh, listOf (List.toArray vh) nh) :: (87, tabObj tab') :: rest') N4 fun q hq => List.mem_cons_of_mem _ hq
  k_steps
  refine Stop.go ?_
  exact cont tab' rest' h4 _ hI3 (fun q hq => hsub _ (List.mem_cons_of_mem _ (hb q hq))) (fun q hq => (hnew q hq).elim (hr2 q) fun h => ⟨Nat.ne_of_gt h.1, Nat.ne_of_gt h.2.1, Nat.ne_of_gt h.2.2.1⟩) F4 N4
end
section
local macro_rules | `(tactic| walk_at "execs cons") => `(tactic| refine Stop.intro ?_)
local macro_rules | `(tactic| walk_at "call ref") => `(tactic| refine Stop.intro ?_)
theorem lawG1 (w : World) (p : Program) (loose : List Str) (mean : ExcName → Option Value) (mg mb : Str → Option Value)
    (dp un : Nat) (gd : Option (List Code)) (fa : Addr) (A₀ : Around) (base h₀ : Heap) (L : Addr) (s : Shared) (Q : Flow → Shared → Prop) (E : Value → Shared → Prop)
    (B : Below A₀ base [] h₀) (X : (hd.heap_39 w.params).In h₀) (C : CodeHd h₀ 89 87) (T : Top p loose mean mg mb h₀) (hdp : dp + 20 < recursionLimit) (hu : un + 200 < cLine) (hL87 : @LT.lt Nat _ 87 L)
    (m : Str → Option Value) (bw bh rl hl pl : Addr) (vw vh rvs fvs pvs : List Value) (nw nh rn fn pn : Nat) (sz st b : Nat) (t2 t3 : Tok) (o1 o2 o3 o4 o5 o6 o7 : Obj) (tab : Array Value) (rest : List (Addr × Obj)) (hok : Okp sz st b)
    (hI : TabInv (Str.ofString "law" ++ ".<locals>." ++ "<lambda>") tab rest)
    (hb : ∀ q ∈ [(rl, listOf (List.toArray rvs) rn), (hl, listOf (List.toArray fvs) fn), (pl, listOf (List.toArray pvs) pn), (L + 1 + 1 + 1 + 1 + 1 + 1 + 1, o7), (L + 1 + 1 + 1 + 1 + 1 + 1, o6), (L + 1 + 1 + 1 + 1 + 1, o5), (L + 1 + 1 + 1 + 1, o4), (L + 1 + 1 + 1, o3), (L + 1 + 1, o2), (L + 1, o1)], q ∈ rest) (hq : ∀ q ∈ rest, @Ne Nat q.1 87 ∧ @Ne Nat q.1 bw ∧ @Ne Nat q.1 bh)
    (d2 : o2.data = .cell (some (.int sz t2))) (d3 : o3.data = .cell (some (.int st t3)))
    (F : Fr h₀ L s.heap (fun y => if y = Str.ofString "by_hue" then some (Value.ref bh) else if y = Str.ofString "by_word" then some (Value.ref bw) else m y))
    (N : News h₀ L s.heap ((bw, listOf (List.toArray vw) nw) :: (bh, listOf (List.toArray vh) nh) :: (87, tabObj tab) :: rest))
    (cont : ∀ pp prv pq tg rest h' tk', TabInv (Str.ofString "law" ++ ".<locals>." ++ "<lambda>") tab rest → StrsAre prv (euc 16 ((sz : Int) - (st : Int)) (st : Int) []).2 → (pp, listOf (List.toArray prv) pq) ∈ rest →
      (∀ q ∈ [(rl, listOf (List.toArray rvs) rn), (hl, listOf (List.toArray fvs) fn), (pl, listOf (List.toArray pvs) pn), (L + 1 + 1 + 1 + 1 + 1 + 1 + 1, o7), (L + 1 + 1 + 1 + 1 + 1 + 1, o6), (L + 1 + 1 + 1 + 1 + 1, o5), (L + 1 + 1 + 1 + 1, o4), (L + 1 + 1 + 1, o3), (L + 1 + 1, o2), (L + 1, o1)], q ∈ rest) → (∀ q ∈ rest, @Ne Nat q.1 87 ∧ @Ne Nat q.1 bw ∧ @Ne Nat q.1 bh) →
      Fr h₀ L h' (fun y => if y = Str.ofString "pairs" then some (Value.ref pp) else if y = Str.ofString "measure" then some (Value.int (euc 16 ((sz : Int) - (st : Int)) (st : Int) []).1 tg) else if y = Str.ofString "by_hue" then some (Value.ref bh) else if y = Str.ofString "by_word" then some (Value.ref bw) else m y) →
      News h₀ L h' ((bw, listOf (List.toArray vw) nw) :: (bh, listOf (List.toArray vh) nh) :: (87, tabObj tab) :: rest) →
      wpAny (model prog w) (ktrTop dp un gd "law" lawScope L fa (.ref 89) (lawCl L) []) (execs (lawBody.drop 14) (envX "law" lawScope L fa (.ref 89) (lawCl L))) Q E { s with heap := h', toks := tk' }) :
    wpAny (model prog w) (ktrTop dp un gd "law" lawScope L fa (.ref 89) (lawCl L) []) (execs (lawBody.drop 13) (envX "law" lawScope L fa (.ref 89) (lawCl L))) Q E s := by
  have hok' := hok
  obtain ⟨hsz, hst0, hst1, hbs⟩ := hok'
  have hs4 : (4 : Int) ≤ (sz : Int) := by omega
  have hs16 : (sz : Int) ≤ 16 := by omega
  have hm2 : (L + 1 + 1, o2) ∈ rest := hb _ (List.mem_cons_of_mem _ (List.mem_cons_of_mem _ (List.mem_cons_of_mem _ (List.mem_cons_of_mem _ (List.mem_cons_of_mem _ (List.mem_cons_of_mem _ (List.mem_cons_of_mem _ (List.mem_cons_of_mem _ (List.mem_cons_self ..)))))))))
  have hm3 : (L + 1 + 1 + 1, o3) ∈ rest := hb _ (List.mem_cons_of_mem _ (List.mem_cons_of_mem _ (List.mem_cons_of_mem _ (List.mem_cons_of_mem _ (List.mem_cons_of_mem _ (List.mem_cons_of_mem _ (List.mem_cons_of_mem _ (List.mem_cons_self ..))))))))
  have hin : ∀ q ∈ rest, q ∈ (bw, listOf (List.toArray vw) nw) :: (bh, listOf (List.toArray vh) nh) :: (87, tabObj tab) :: rest := fun q hq => List.mem_cons_of_mem _ (List.mem_cons_of_mem _ (List.mem_cons_of_mem _ hq))
  replace N : News h₀ L s.heap ((L + 1 + 1, o2) :: (L + 1 + 1 + 1, o3) :: (bw, listOf (List.toArray vw) nw) :: (bh, listOf (List.toArray vh) nh) :: (87, tabObj tab) :: rest) := news_sub N (List.forall_mem_cons.mpr ⟨hin _ hm2, List.forall_mem_cons.mpr ⟨hin _ hm3, fun q hq => hq⟩⟩)
  conv in (execs _ _) => (arg 1; whnf)
  refine wpAny_execs_cons ?_
  k_steps
  refine Stop.go ?_
  rename Fr _ _ _ _ => F1
  rename News _ _ _ _ => N1
  with_unfolding_all refine' eucC w p loose mean mg mb _ _ _ _ _ _ _ _ _ _ _ _ _ _ _ _ _ _ ((sz : Int) - (st : Int)) (st : Int) _ _ (by omega) (by omega) (by omega) B F1 X N1 T rfl ?d ?u ?_
  case d => ktr_room
  case u => ktr_units
  intro tp pp prv pq tg h2 tk2 hS F2 N2 l1 l2
  clear F1 N1
  k_steps
  refine Stop.go ?_
  rename Fr _ _ _ _ => F3
  rename News _ _ _ _ => N3
  have h87 : @LT.lt Nat _ 87 pp := l1 (87, tabObj tab) (List.mem_cons_of_mem _ (List.mem_cons_of_mem _ (List.mem_cons_of_mem _ (List.mem_cons_of_mem _ (List.mem_cons_self ..)))))
  have hbw : @LT.lt Nat _ bw pp := l1 (bw, listOf (List.toArray vw) nw) (List.mem_cons_of_mem _ (List.mem_cons_of_mem _ (List.mem_cons_self ..)))
  have hbh : @LT.lt Nat _ bh pp := l1 (bh, listOf (List.toArray vh) nh) (List.mem_cons_of_mem _ (List.mem_cons_of_mem _ (List.mem_cons_of_mem _ (List.mem_cons_self ..))))
  refine cont pp prv pq tg ((pp, listOf (List.toArray prv) pq) :: rest) _ _ (hI.mono fun q hq => List.mem_cons_of_mem _ hq) hS (List.mem_cons_self ..) (fun q hq => List.mem_cons_of_mem _ (hb q hq)) (List.forall_mem_cons.mpr ⟨⟨Nat.ne_of_gt h87, Nat.ne_of_gt hbw, Nat.ne_of_gt hbh⟩, hq⟩) F3 ?_
  refine news_sub N3 ?_
  have hk : ∀ q ∈ (bw, listOf (List.toArray vw) nw) :: (bh, listOf (List.toArray vh) nh) :: (87, tabObj tab) :: rest, q ∈ (tp, ({ cls := Value.type "tuple", data := Data.seq #[Value.int (euc 16 ((sz : Int) - (st : Int)) (st : Int) []).fst tg, Value.ref pp] } : Obj)) :: (pp, listOf (List.toArray prv) pq) :: (L + 1 + 1, o2) :: (L + 1 + 1 + 1, o3) :: (bw, listOf (List.toArray vw) nw) :: (bh, listOf (List.toArray vh) nh) :: (87, tabObj tab) :: rest := fun q hq => List.mem_cons_of_mem _ (List.mem_cons_of_mem _ (List.mem_cons_of_mem _ (List.mem_cons_of_mem _ hq)))
  exact List.forall_mem_cons.mpr ⟨hk _ (List.mem_cons_self ..), List.forall_mem_cons.mpr ⟨hk _ (List.mem_cons_of_mem _ (List.mem_cons_self ..)), List.forall_mem_cons.mpr ⟨hk _ (List.mem_cons_of_mem _ (List.mem_cons_of_mem _ (List.mem_cons_self ..))), List.forall_mem_cons.mpr ⟨List.mem_cons_of_mem _ (List.mem_cons_self ..), fun q hq => hk q (List.mem_cons_of_mem _ (List.mem_cons_of_mem _ (List.mem_cons_of_mem _ hq)))⟩⟩⟩⟩
end
theorem bisWl (w : World) (p : Program) (loose : List Str) (mean : ExcName → Option Value) (mg mb : Str → Option Value)
    {dp un : Nat} {gd : Option (List Code)} {cn : Str} {cs : Scope} {a : Addr} {ccd : Value} {cl : List (Str × Addr)} {outer : List Env} {A₀ : Around} {base h₀ : Heap} {L : Addr} {m : Str → Option Value} {s : Shared} {Q E : Value → Shared → Prop}
    {name qual : Str} {p1 p2 p3 ap : Pos} {mr : List (Str × Const)} {pm ctv : Value} {b1 tb : Addr × Obj} {rest own : List (Addr × Obj)} {la lam c' cell rl : Addr} {o7 oc : Obj} {cvs : Array Value} {ct : Tok} {rvs vs : List Value} {rn nn : Nat} {wd : Str} {sz kn : Nat} {W : List Int} {y : Str} {tx : Tok} (r : Int)
    (B : Below A₀ base outer h₀) (F : Fr h₀ L s.heap m) (X : (hd.heap_39 w.params).In h₀) (N : News h₀ L s.heap ((la, listOf vs.toArray nn) :: b1 :: (lam, lamObj "readings" name qual p1 p2 p3 ap mr cell pm ctv c') :: tb :: (rest ++ own))) (T : Top p loose mean mg mb h₀) (hk : cs.kind = .function)
    (hdp : dp + 4 < recursionLimit) (hu : un + 40 < cLine) (hvs : IntsAre vs W) (hWl : W.length ≤ 16) (hWm : ∀ i ∈ W, 0 ≤ i ∧ i < (sz : Int)) (hkn : kn < sz) (hs16 : sz ≤ 16) (hR : StrsAre rvs ((List.range sz).map fun k => rdS wd k)) (hy : y = rdS wd kn)
    (hpart : ∀ j (h : j < W.length), ltW wd W[j] (kn : Int) = decide ((j : Int) < r)) (h0r : 0 ≤ r) (hrn : r ≤ W.length)
    (hm7 : (cell, o7) ∈ rest) (hcm : (c', oc) ∈ rest) (hmr : (rl, listOf (List.toArray rvs) rn) ∈ rest) (d7 : o7.data = .cell (some (.ref rl))) (hdc : oc.data = .fields cvs) (hvc : cvs[1]? = some (.str qual ct))
    (hret : ∀ t h' tk', Fr h₀ L h' m → News h₀ L h' ((la, listOf vs.toArray nn) :: b1 :: (lam, lamObj "readings" name qual p1 p2 p3 ap mr cell pm ctv c') :: tb :: (rest ++ own)) → Q (.int r t) { s with heap := h', toks := tk' }) :
    wpAny (model prog w) (ktrTop dp un gd cn cs L a ccd cl outer) (call (.ref 57) [.ref la, .str y tx] [("key", .ref lam)]) Q E s := by
  have hrl : rvs.length = sz := by rw [strs_len hR, List.length_map, List.length_range]
  have hin : ∀ q ∈ rest, q ∈ b1 :: (lam, lamObj "readings" name qual p1 p2 p3 ap mr cell pm ctv c') :: tb :: (rest ++ own) := fun q hq => List.mem_cons_of_mem _ (List.mem_cons_of_mem _ (List.mem_cons_of_mem _ (List.mem_append_left _ hq)))
  refine bisL2 w p loose mean mg mb dp un gd cn cs a ccd cl outer A₀ base h₀ L m s Q E _ la lam vs W nn _ hvs hWl _ ?core _ ?hdom _ _ _ _ _ (List.mem_cons_of_mem _ (List.mem_cons_self ..)) (key_readings w p loose mean mg mb name qual p1 p2 p3 ap mr lam cell c' rl o7 oc pm ctv cvs ct rvs rn d7 hdc hvc ?kl) (fun i => ltW wd i (kn : Int)) ?cmp r hpart h0r hrn B F X N T hk hdp hu hret
  case core => exact List.forall_mem_cons.mpr ⟨List.mem_cons_of_mem _ (List.mem_cons_self ..), List.forall_mem_cons.mpr ⟨hin _ hm7, List.forall_mem_cons.mpr ⟨hin _ hcm, List.forall_mem_cons.mpr ⟨hin _ hmr, List.forall_mem_nil _⟩⟩⟩⟩
  case hdom =>
    intro i hi
    have := hWm i hi
    exact ⟨this.1, by omega⟩
  case kl => omega
  case cmp =>
    intro i v hi hv A Q E s hq
    have hi' : i.toNat < sz := by omega
    obtain ⟨t1, e1⟩ := hR.get i.toNat (rdS wd i.toNat) (by simp [hi'])
    rw [e1] at hv
    cases hv
    subst hy
    exact PyProof.Rows.lt_str hq
theorem bisHr (w : World) (p : Program) (loose : List Str) (mean : ExcName → Option Value) (mg mb : Str → Option Value)
    {dp un : Nat} {gd : Option (List Code)} {cn : Str} {cs : Scope} {a : Addr} {ccd : Value} {cl : List (Str × Addr)} {outer : List Env} {A₀ : Around} {base h₀ : Heap} {L : Addr} {m : Str → Option Value} {s : Shared} {Q E : Value → Shared → Prop}
    {name qual : Str} {p1 p2 p3 ap : Pos} {mr : List (Str × Const)} {pm ctv : Value} {b1 tb : Addr × Obj} {rest own : List (Addr × Obj)} {la lam c' cell rl : Addr} {o7 oc : Obj} {cvs : Array Value} {ct : Tok} {rvs vs : List Value} {rn nn : Nat} {sz st b kn : Nat} {W : List Int} {y : UInt64} {tx : Tok} (r : Int)
    (B : Below A₀ base outer h₀) (F : Fr h₀ L s.heap m) (X : (hd.heap_39 w.params).In h₀) (N : News h₀ L s.heap ((la, listOf vs.toArray nn) :: b1 :: (lam, lamObj "hues" name qual p1 p2 p3 ap mr cell pm ctv c') :: tb :: (rest ++ own))) (T : Top p loose mean mg mb h₀) (hk : cs.kind = .function)
    (hdp : dp + 4 < recursionLimit) (hu : un + 40 < cLine) (hvs : IntsAre vs W) (hWl : W.length ≤ 16) (hWm : ∀ i ∈ W, 0 ≤ i ∧ i < (sz : Int)) (hkn : kn < sz) (hs16 : sz ≤ 16) (hok : Okp sz st b) (hR : Flt.FloatsAre rvs (huL sz st b)) (hy : y = fr (plAt sz st b kn) sz)
    (hpart : ∀ j (h : j < W.length), ltH sz st b (kn : Int) W[j] = decide (r ≤ (j : Int))) (h0r : 0 ≤ r) (hrn : r ≤ W.length)
    (hm7 : (cell, o7) ∈ rest) (hcm : (c', oc) ∈ rest) (hmr : (rl, listOf (List.toArray rvs) rn) ∈ rest) (d7 : o7.data = .cell (some (.ref rl))) (hdc : oc.data = .fields cvs) (hvc : cvs[1]? = some (.str qual ct))
    (hret : ∀ t h' tk', Fr h₀ L h' m → News h₀ L h' ((la, listOf vs.toArray nn) :: b1 :: (lam, lamObj "hues" name qual p1 p2 p3 ap mr cell pm ctv c') :: tb :: (rest ++ own)) → Q (.int r t) { s with heap := h', toks := tk' }) :
    wpAny (model prog w) (ktrTop dp un gd cn cs L a ccd cl outer) (call (.ref 39) [.ref la, .float y tx] [("key", .ref lam)]) Q E s := by
  have hrl : rvs.length = sz := by rw [floats_len hR]; unfold huL; rw [List.length_map, plL_len]
  have hin : ∀ q ∈ rest, q ∈ b1 :: (lam, lamObj "hues" name qual p1 p2 p3 ap mr cell pm ctv c') :: tb :: (rest ++ own) := fun q hq => List.mem_cons_of_mem _ (List.mem_cons_of_mem _ (List.mem_cons_of_mem _ (List.mem_append_left _ hq)))
  refine bisR2 w p loose mean mg mb dp un gd cn cs a ccd cl outer A₀ base h₀ L m s Q E _ la lam vs W nn _ hvs hWl _ ?core _ ?hdom _ _ _ _ _ (List.mem_cons_of_mem _ (List.mem_cons_self ..)) (key_hues w p loose mean mg mb name qual p1 p2 p3 ap mr lam cell c' rl o7 oc pm ctv cvs ct rvs rn d7 hdc hvc ?kl) (fun i => ltH sz st b (kn : Int) i) ?cmp r hpart h0r hrn B F X N T hk hdp hu hret
  case core => exact List.forall_mem_cons.mpr ⟨List.mem_cons_of_mem _ (List.mem_cons_self ..), List.forall_mem_cons.mpr ⟨hin _ hm7, List.forall_mem_cons.mpr ⟨hin _ hcm, List.forall_mem_cons.mpr ⟨hin _ hmr, List.forall_mem_nil _⟩⟩⟩⟩
  case hdom =>
    intro i hi
    have := hWm i hi
    exact ⟨this.1, by omega⟩
  case kl => omega
  case cmp =>
    intro i v hi hv A Q E s hq
    obtain ⟨t1, e1⟩ := hu_get hR (k := i.toNat) (by omega)
    rw [Int.toNat_natCast] at e1
    rw [e1] at hv
    cases hv
    subst hy
    refine AutoFloatOps.lt_0 ?_
    obtain ⟨hsz, h0, h1, hb⟩ := hok
    have := fr_lt hsz (plAt_lt (sz := sz) (st := st) (b := b) (k := kn) (by omega)) (plAt_lt (sz := sz) (st := st) (b := b) (k := i.toNat) (by omega))
    rw [show (Float64.cmp (fr (plAt sz st b kn) sz) (fr (plAt sz st b i.toNat) sz) == some Ordering.lt) = _ from this]
    exact hq
theorem lawH1_front {h₀ h : Heap} {L : Addr} {a b c : Addr × Obj} {rest own e : List (Addr × Obj)} (N : News h₀ L h (a :: b :: c :: (rest ++ own))) (he : ∀ q ∈ e, q ∈ rest) : News h₀ L h (a :: b :: c :: ((e ++ rest) ++ own)) :=
  news_sub N (List.forall_mem_cons.mpr ⟨List.mem_cons_self .., List.forall_mem_cons.mpr ⟨List.mem_cons_of_mem _ (List.mem_cons_self ..), List.forall_mem_cons.mpr ⟨List.mem_cons_of_mem _ (List.mem_cons_of_mem _ (List.mem_cons_self ..)), fun q hq => List.mem_cons_of_mem _ (List.mem_cons_of_mem _ (List.mem_cons_of_mem _ ((List.mem_append.mp hq).elim (fun h => (List.mem_append.mp h).elim (fun h => List.mem_append_left _ (he q h)) fun h => List.mem_append_left _ h) fun h => List.mem_append_right _ h)))⟩⟩⟩)
theorem lawH1_fr {h₀ h : Heap} {L bw bh pp : Addr} {gi : Int} {tg : Tok} {u m : Str → Option Value}
    (F : Fr h₀ L h (fun y => if y = "k" then u y else kstB (fun z => if (["lower"] : List Str).contains z then u z else (if z = Str.ofString "pairs" then some (Value.ref pp) else if z = Str.ofString "measure" then some (Value.int gi tg) else if z = Str.ofString "by_hue" then some (Value.ref bh) else if z = Str.ofString "by_word" then some (Value.ref bw) else m z)) [] y)) :
    Fr h₀ L h (fun y => if y = Str.ofString "pairs" then some (Value.ref pp) else if y = Str.ofString "measure" then some (Value.int gi tg) else if y = Str.ofString "by_hue" then some (Value.ref bh) else if y = Str.ofString "by_word" then some (Value.ref bw) else (if y = "k" then u y else if (["lower"] : List Str).contains y then u y else m y)) := by
  refine cast (congrArg (Fr h₀ L h) (funext fun y => ?_)) F
  show (if y = "k" then u y else if (["lower"] : List Str).contains y then u y else (if y = Str.ofString "pairs" then some (Value.ref pp) else if y = Str.ofString "measure" then some (Value.int gi tg) else if y = Str.ofString "by_hue" then some (Value.ref bh) else if y = Str.ofString "by_word" then some (Value.ref bw) else m y)) = _
  by_cases e1 : y = Str.ofString "pairs"
  · rw [if_neg (by rw [e1]; decide), if_neg (by rw [e1]; decide), if_pos e1, if_pos e1]
  · by_cases e2 : y = Str.ofString "measure"
    · rw [if_neg (by rw [e2]; decide), if_neg (by rw [e2]; decide), if_neg e1, if_pos e2, if_neg e1, if_pos e2]
    · by_cases e3 : y = Str.ofString "by_hue"
      · rw [if_neg (by rw [e3]; decide), if_neg (by rw [e3]; decide), if_neg e1, if_neg e2, if_pos e3, if_neg e1, if_neg e2, if_pos e3]
      · by_cases e4 : y = Str.ofString "by_word"
        · rw [if_neg (by rw [e4]; decide), if_neg (by rw [e4]; decide), if_neg e1, if_neg e2, if_neg e3, if_pos e4, if_neg e1, if_neg e2, if_neg e3, if_pos e4]
        · rw [if_neg e1, if_neg e2, if_neg e3, if_neg e4, if_neg e1, if_neg e2, if_neg e3, if_neg e4]
section
local macro_rules | `(tactic| walk_at "execs cons") => `(tactic| refine Stop.intro ?_)
local macro_rules | `(tactic| walk_at "pyIter ref") => `(tactic| refine Stop.intro ?_)
local macro_rules | `(tactic| walk_at "call ref") => `(tactic| refine Stop.intro ?_)
local macro_rules | `(tactic| walk_at "eval Lambda") => `(tactic| refine Stop.intro ?_)
local macro_rules | `(tactic| walk_at "last callWith ref") => `(tactic| refine Stop.intro ?_)
local macro_rules | `(tactic| walk_at "InvPostG") => `(tactic| refine Stop.intro ?_)
local macro_rules | `(tactic| walk_at "InvEndG") => `(tactic| refine Stop.intro ?_)
theorem fr_gen {h₀ h : Heap} {L : Addr} {x : Str} {v : Value} {m : Str → Option Value} (P : Value → Prop) (F : Fr h₀ L h (fun y => if y = x then some v else m y)) (hv : P v) : ∃ v', P v' ∧ Fr h₀ L h (fun y => if y = x then some v' else m y) := ⟨v, hv, F⟩
theorem lawH1 (w : World) (p : Program) (loose : List Str) (mean : ExcName → Option Value) (mg mb : Str → Option Value)
    (dp un : Nat) (gd : Option (List Code)) (fa : Addr) (A₀ : Around) (base h₀ : Heap) (L : Addr) (s : Shared) (Q : Flow → Shared → Prop) (E : Value → Shared → Prop)
    (B : Below A₀ base [] h₀) (X : (hd.heap_39 w.params).In h₀) (C : CodeHd h₀ 89 87) (T : Top p loose mean mg mb h₀) (hdp : dp + 20 < recursionLimit) (hu : un + 200 < cLine) (hL87 : @LT.lt Nat _ 87 L) (hE : PassesOwn (model prog w) (ktrTop dp un gd "law" lawScope L fa (.ref 89) (lawCl L) []) (envX "law" lawScope L fa (.ref 89) (lawCl L)) E)
    (m : Str → Option Value) (bw bh rl hl pl pp : Addr) (vw vh rvs fvs pvs : List Value) (nw nh rn fn pn : Nat) (sz st b g : Nat) (gi : Int) (t2 tg : Tok) (wd : Str) (o1 o2 o3 o4 o5 o6 o7 : Obj) (tab : Array Value) (rest : List (Addr × Obj)) (W H : List Int) (hok : Okp sz st b)
    (hW : IntsAre vw W) (hWl : W.length = sz) (hWm : ∀ i ∈ W, 0 ≤ i ∧ i < (sz : Int)) (hH : IntsAre vh H) (hHl : H.length = sz) (hHm : ∀ i ∈ H, 0 ≤ i ∧ i < (sz : Int)) (hR : StrsAre rvs ((List.range sz).map fun k => rdS wd k)) (hF : Flt.FloatsAre fvs (huL sz st b)) (hP : IntsAre pvs (plL sz st b))
    (hgi : gi = (g : Int)) (hg0 : 0 < g)
    (hrow : ∀ k < sz, (plAt sz st b k - plAt sz st b k % g + g ≤ sz) ∧ (∀ j (h : j < W.length), ltW wd W[j] (k : Int) = decide ((j : Int) < ((plAt sz st b k - plAt sz st b k % g : Nat) : Int))) ∧ (∀ j (h : j < H.length), ltH sz st b (k : Int) H[j] = decide (((plAt sz st b k - plAt sz st b k % g + g : Nat) : Int) ≤ (j : Int))))
    (hI : TabInv (Str.ofString "law" ++ ".<locals>." ++ "<lambda>") tab rest)
    (hb : ∀ q ∈ [(rl, listOf (List.toArray rvs) rn), (hl, listOf (List.toArray fvs) fn), (pl, listOf (List.toArray pvs) pn), (L + 1 + 1 + 1 + 1 + 1 + 1 + 1, o7), (L + 1 + 1 + 1 + 1 + 1 + 1, o6), (L + 1 + 1 + 1 + 1 + 1, o5), (L + 1 + 1 + 1 + 1, o4), (L + 1 + 1 + 1, o3), (L + 1 + 1, o2), (L + 1, o1)], q ∈ rest) (hq : ∀ q ∈ rest, @Ne Nat q.1 87 ∧ @Ne Nat q.1 bw ∧ @Ne Nat q.1 bh)
    (d2 : o2.data = .cell (some (.int sz t2))) (d5 : o5.data = .cell (some (.ref hl))) (d6 : o6.data = .cell (some (.ref pl))) (d7 : o7.data = .cell (some (.ref rl))) (ofw : OffC bw L) (ofu : OffC bh L) (obw : @Ne Nat bh bw)
    (F : Fr h₀ L s.heap (fun y => if y = Str.ofString "pairs" then some (Value.ref pp) else if y = Str.ofString "measure" then some (Value.int gi tg) else if y = Str.ofString "by_hue" then some (Value.ref bh) else if y = Str.ofString "by_word" then some (Value.ref bw) else m y))
    (N : News h₀ L s.heap ((bw, listOf (List.toArray vw) nw) :: (bh, listOf (List.toArray vh) nh) :: (87, tabObj tab) :: rest))
    (cont : ∀ tab rest' (m' : Str → Option Value) h' tk', (∀ q ∈ rest, q ∈ rest') → (∀ q ∈ rest', @Ne Nat q.1 87 ∧ @Ne Nat q.1 bw ∧ @Ne Nat q.1 bh) →
      Fr h₀ L h' (fun y => if y = Str.ofString "pairs" then some (Value.ref pp) else if y = Str.ofString "measure" then some (Value.int gi tg) else if y = Str.ofString "by_hue" then some (Value.ref bh) else if y = Str.ofString "by_word" then some (Value.ref bw) else m' y) →
      News h₀ L h' ((bw, listOf (List.toArray vw) nw) :: (bh, listOf (List.toArray vh) nh) :: (87, tabObj tab) :: rest') →
      wpAny (model prog w) (ktrTop dp un gd "law" lawScope L fa (.ref 89) (lawCl L) []) (execs (lawBody.drop 15) (envX "law" lawScope L fa (.ref 89) (lawCl L))) Q E { s with heap := h', toks := tk' }) :
    wpAny (model prog w) (ktrTop dp un gd "law" lawScope L fa (.ref 89) (lawCl L) []) (execs (lawBody.drop 14) (envX "law" lawScope L fa (.ref 89) (lawCl L))) Q E s := by
  have hok' := hok
  obtain ⟨hsz, hst0, hst1, hbs⟩ := hok'
  have hs4 : (4 : Int) ≤ (sz : Int) := by omega
  have hs16 : (sz : Int) ≤ 16 := by omega
  have hm2 : (L + 1 + 1, o2) ∈ rest := hb _ (List.mem_cons_of_mem _ (List.mem_cons_of_mem _ (List.mem_cons_of_mem _ (List.mem_cons_of_mem _ (List.mem_cons_of_mem _ (List.mem_cons_of_mem _ (List.mem_cons_of_mem _ (List.mem_cons_of_mem _ (List.mem_cons_self ..)))))))))
  have hm7 : (L + 1 + 1 + 1 + 1 + 1 + 1 + 1, o7) ∈ rest := hb _ (List.mem_cons_of_mem _ (List.mem_cons_of_mem _ (List.mem_cons_of_mem _ (List.mem_cons_self ..))))
  have hm6 : (L + 1 + 1 + 1 + 1 + 1 + 1, o6) ∈ rest := hb _ (List.mem_cons_of_mem _ (List.mem_cons_of_mem _ (List.mem_cons_of_mem _ (List.mem_cons_of_mem _ (List.mem_cons_self ..)))))
  have hm5 : (L + 1 + 1 + 1 + 1 + 1, o5) ∈ rest := hb _ (List.mem_cons_of_mem _ (List.mem_cons_of_mem _ (List.mem_cons_of_mem _ (List.mem_cons_of_mem _ (List.mem_cons_of_mem _ (List.mem_cons_self ..))))))
  have hmr : (rl, listOf (List.toArray rvs) rn) ∈ rest := hb _ (List.mem_cons_self ..)
  have hmh : (hl, listOf (List.toArray fvs) fn) ∈ rest := hb _ (List.mem_cons_of_mem _ (List.mem_cons_self ..))
  have hmp : (pl, listOf (List.toArray pvs) pn) ∈ rest := hb _ (List.mem_cons_of_mem _ (List.mem_cons_of_mem _ (List.mem_cons_self ..)))
  have hrl : rvs.length = sz := by rw [strs_len hR, List.length_map, List.length_range]
  have hpl : pvs.length = sz := by rw [hP.length, plL_len]
  have hgs : (0 : Int) < gi := by omega
  clear hb
  replace N : News h₀ L s.heap ((bw, listOf (List.toArray vw) nw) :: (bh, listOf (List.toArray vh) nh) :: (87, tabObj tab) :: (L + 1 + 1, o2) :: rest) := news_sub N (List.forall_mem_cons.mpr ⟨List.mem_cons_self .., List.forall_mem_cons.mpr ⟨List.mem_cons_of_mem _ (List.mem_cons_self ..), List.forall_mem_cons.mpr ⟨List.mem_cons_of_mem _ (List.mem_cons_of_mem _ (List.mem_cons_self ..)), List.forall_mem_cons.mpr ⟨List.mem_cons_of_mem _ (List.mem_cons_of_mem _ (List.mem_cons_of_mem _ hm2)), fun q hq => List.mem_cons_of_mem _ (List.mem_cons_of_mem _ (List.mem_cons_of_mem _ hq))⟩⟩⟩⟩)
  conv in (execs _ _) => (arg 1; whnf)
  refine wpAny_execs_cons ?_
  with_unfolding_all refine' For_invV h₀ ?hx ?hp ?_ ?hs ?hE
  case hx => rfl
  case hp => rfl
  case hs => exact fun _ => rfl
  case hE => exact hE
  k_steps
  refine Stop.go ?_
  try dsimp only
  rename Fr _ _ _ _ => F1
  rename News _ _ _ _ => N1
  rename IsRange _ _ _ _ _ _ _ _ => R1
  have N2 : News h₀ L _ ((bw, listOf (List.toArray vw) nw) :: (bh, listOf (List.toArray vh) nh) :: (87, tabObj tab) :: rest) := news_sub N1 (List.forall_mem_cons.mpr ⟨List.mem_cons_self .., List.forall_mem_cons.mpr ⟨List.mem_cons_of_mem _ (List.mem_cons_self ..), List.forall_mem_cons.mpr ⟨List.mem_cons_of_mem _ (List.mem_cons_of_mem _ (List.mem_cons_self ..)), fun q hq => List.mem_cons_of_mem _ (List.mem_cons_of_mem _ (List.mem_cons_of_mem _ (List.mem_cons_of_mem _ hq)))⟩⟩⟩)
  clear N1
  with_unfolding_all refine' kst_rangeG (σ := Array Value × List (Addr × Obj)) (n := sz) (fun c => (bw, listOf (List.toArray vw) nw) :: (bh, listOf (List.toArray vh) nh) :: (87, tabObj c.1) :: c.2) (fun _ => []) (fun _ => True) ["lower"] (fun pre c => TabInv (Str.ofString "law" ++ ".<locals>." ++ "<lambda>") c.1 c.2 ∧ (∀ q ∈ rest, q ∈ c.2) ∧ ∀ q ∈ c.2, @Ne Nat q.1 87 ∧ @Ne Nat q.1 bw ∧ @Ne Nat q.1 bh) (tab, rest) rfl R1 ?sm ?rs F1 N2 trivial ?hk1 ?hp1 ?turn ?done
  case sm => exact small_one (by omega) (by omega) (by omega) (by omega)
  case rs => first | exact rangeSize_nat _ _ | (have := rangeSize_nat 0 sz; simpa using this)
  case hk1 => exact List.forall_mem_nil _
  case hp1 => exact ⟨hI, fun _ h => h, hq⟩
  case done =>
    intro c u h2 tk2 _ hP F2 N2
    obtain ⟨tab, rest'⟩ := c
    obtain ⟨hP3, hP4, hP5⟩ := hP
    dsimp only at F2 N2 hP3 hP4 hP5
    exact cont tab rest' _ h2 tk2 hP4 hP5 (lawH1_fr F2) N2
  case turn =>
    intro c pre k t u h2 tk2 own hke hkn hoff _ hP F2 N2
    obtain ⟨tab', rest1⟩ := c
    obtain ⟨hP3, hP4, hP5⟩ := hP
    dsimp only at F2 N2 hP3 hP4 hP5 hoff ⊢
    generalize hkk : pre.length = kn at hke hkn
    rw [Int.zero_add] at hke
    subst hke
    simp only [List.cons_append] at N2
    have N3 := lawH1_front (e := [(L + 1 + 1 + 1 + 1 + 1 + 1, o6), (pl, listOf (List.toArray pvs) pn), (L + 1 + 1 + 1 + 1 + 1 + 1 + 1, o7), (rl, listOf (List.toArray rvs) rn)]) N2 (List.forall_mem_cons.mpr ⟨hP4 _ hm6, List.forall_mem_cons.mpr ⟨hP4 _ hmp, List.forall_mem_cons.mpr ⟨hP4 _ hm7, List.forall_mem_cons.mpr ⟨hP4 _ hmr, List.forall_mem_nil _⟩⟩⟩⟩)
    simp only [List.cons_append, List.nil_append] at N3
    clear N2
    conv in (execs _ _) => (arg 1; whnf)
    refine wpAny_execs_cons ?_
    have hown : ∀ q ∈ own, q.1 ≠ 87 ∧ q.1 ≠ bw ∧ q.1 ≠ bh := fun q hq => ⟨hoff q hq _ (List.mem_cons_of_mem _ (List.mem_cons_of_mem _ (List.mem_cons_self ..))), hoff q hq _ (List.mem_cons_self ..), hoff q hq _ (List.mem_cons_of_mem _ (List.mem_cons_self ..))⟩
    k_steps
    refine Stop.go (wpAny_execs_cons ?_)
    try dsimp only
    rename Fr _ _ _ _ => F3
    have hlow : (plL sz st b).getD (kn : Int).toNat 0 - ((plL sz st b).getD (kn : Int).toNat 0).fmod gi = ((plAt sz st b kn - plAt sz st b kn % g : Nat) : Int) := by
      rw [Int.toNat_natCast, plL_get hkn, hgi, Int.fmod_eq_emod_of_nonneg _ (by omega), ← Int.natCast_emod, Int.ofNat_sub (Nat.mod_le ..)]
    obtain ⟨v3, ⟨tl, hv3⟩, F4⟩ := fr_gen (fun v => ∃ tl, v = Value.int ((plAt sz st b kn - plAt sz st b kn % g : Nat) : Int) tl) F3 ⟨_, congrArg (fun z => Value.int z _) hlow⟩
    subst hv3
    clear F3 hlow
    k_steps
    refine Stop.go ?_
    try dsimp only
    rename Fr _ _ _ _ => F4
    rename News _ _ _ _ => N4
    obtain ⟨hr1, hr2, hr3⟩ := hrow kn hkn
    have hq4 : ∀ q ∈ ((L + 1 + 1 + 1 + 1 + 1 + 1, o6) :: (pl, listOf (List.toArray pvs) pn) :: (L + 1 + 1 + 1 + 1 + 1 + 1 + 1, o7) :: (rl, listOf (List.toArray rvs) rn) :: rest1), q ∈ rest1 := List.forall_mem_cons.mpr ⟨hP4 _ hm6, List.forall_mem_cons.mpr ⟨hP4 _ hmp, List.forall_mem_cons.mpr ⟨hP4 _ hm7, List.forall_mem_cons.mpr ⟨hP4 _ hmr, fun q hq => hq⟩⟩⟩⟩
    have hq5 : ∀ q ∈ rest1, q ∈ ((L + 1 + 1 + 1 + 1 + 1 + 1, o6) :: (pl, listOf (List.toArray pvs) pn) :: (L + 1 + 1 + 1 + 1 + 1 + 1 + 1, o7) :: (rl, listOf (List.toArray rvs) rn) :: rest1) := fun q hq => List.mem_cons_of_mem _ (List.mem_cons_of_mem _ (List.mem_cons_of_mem _ (List.mem_cons_of_mem _ hq)))
    replace N4 : News h₀ L _ ((bw, listOf (List.toArray vw) nw) :: (bh, listOf (List.toArray vh) nh) :: (87, tabObj tab') :: (((L + 1 + 1 + 1 + 1 + 1 + 1, o6) :: (pl, listOf (List.toArray pvs) pn) :: (L + 1 + 1 + 1 + 1 + 1 + 1 + 1, o7) :: (rl, listOf (List.toArray rvs) rn) :: rest1) ++ own)) := N4
    generalize ((L + 1 + 1 + 1 + 1 + 1 + 1, o6) :: (pl, listOf (List.toArray pvs) pn) :: (L + 1 + 1 + 1 + 1 + 1 + 1 + 1, o7) :: (rl, listOf (List.toArray rvs) rn) :: rest1) = R at hq4 hq5 N4
    with_unfolding_all refine' lam2 (P := 87) (c := 89) (own := own) (rest := R) (tab := tab') (a1 := (bw, listOf (List.toArray vw) nw)) (b1 := (bh, listOf (List.toArray vh) nh)) F4 N4 T C rfl (hP3.mono hq5) ofw.1 ofu.1 (fun q hq => (hP5 q (hq4 q hq)).1) (fun q hq => (hown q hq).1) rfl rfl ?_
    intro f c' oc vs t1 ctv h3 tk3 tab2 rest2 F5 N5 hI5 hsub hcm hdc hvc hnew hf
    have hsub2 : ∀ q ∈ rest1, q ∈ rest2 := fun q hq => hsub q (hq5 q hq)
    have hr5 : ∀ q ∈ rest2, @Ne Nat q.1 87 ∧ @Ne Nat q.1 bw ∧ @Ne Nat q.1 bh := fun q hq => (hnew q hq).elim (fun h => hP5 q (hq4 q h)) fun h => ⟨Nat.ne_of_gt h.1, Nat.ne_of_gt h.2.1, Nat.ne_of_gt h.2.2.1⟩
    clear F4 N4
    k_steps
    refine Stop.go ?_
    try dsimp only
    with_unfolding_all refine' bisWl w p loose mean mg mb (sz := sz) (kn := kn) (wd := wd) _ B F5 X N5 T rfl ?d ?u hW (by omega) hWm hkn (by omega) hR ?y hr2 ?r0 ?rn (hsub2 _ (hP4 _ hm7)) hcm (hsub2 _ (hP4 _ hmr)) d7 hdc hvc ?_
    case d => ktr_room
    case u => ktr_units
    case y => simp [List.getD_eq_getElem?_getD, hkn]
    case r0 => exact Int.natCast_nonneg _
    case rn => rw [hWl]; omega
    intro tr h5 tk5 F6 N6
    clear F5 N5
    k_steps
    · rename ((plAt sz st b kn - plAt sz st b kn % g : Nat) : Int) ≠ _ => hne
      exact absurd rfl hne
    refine Stop.go (wpAny_execs_cons ?_)
    try dsimp only
    have N7 := lawH1_front (e := [(L + 1 + 1 + 1 + 1 + 1, o5), (hl, listOf (List.toArray fvs) fn)]) (news_ba N6) (List.forall_mem_cons.mpr ⟨hsub2 _ (hP4 _ hm5), List.forall_mem_cons.mpr ⟨hsub2 _ (hP4 _ hmh), List.forall_mem_nil _⟩⟩)
    simp only [List.cons_append, List.nil_append] at N7
    clear N6
    k_steps
    obtain ⟨tx, ex⟩ := hu_get hF hkn
    refine key_item (u := t) (N7.get (List.mem_cons_of_mem _ (List.mem_cons_of_mem _ (List.mem_cons_of_mem _ (List.mem_cons_of_mem _ (List.mem_cons_self ..)))))) (Int.natCast_nonneg _) (by omega) ex ?_ (by with_unfolding_all rfl)
    k_steps
    refine Stop.go ?_
    try dsimp only
    have hq6 : ∀ q ∈ ((L + 1 + 1 + 1 + 1 + 1, o5) :: (hl, listOf (List.toArray fvs) fn) :: rest2), q ∈ rest2 := List.forall_mem_cons.mpr ⟨hsub2 _ (hP4 _ hm5), List.forall_mem_cons.mpr ⟨hsub2 _ (hP4 _ hmh), fun q hq => hq⟩⟩
    have hq7 : ∀ q ∈ rest2, q ∈ ((L + 1 + 1 + 1 + 1 + 1, o5) :: (hl, listOf (List.toArray fvs) fn) :: rest2) := fun q hq => List.mem_cons_of_mem _ (List.mem_cons_of_mem _ hq)
    rename Fr _ _ _ _ => F8
    rename News _ _ _ _ => N8
    replace N8 : News h₀ L _ ((bh, listOf (List.toArray vh) nh) :: (bw, listOf (List.toArray vw) nw) :: (87, tabObj tab2) :: (((L + 1 + 1 + 1 + 1 + 1, o5) :: (hl, listOf (List.toArray fvs) fn) :: rest2) ++ own)) := N8
    generalize ((L + 1 + 1 + 1 + 1 + 1, o5) :: (hl, listOf (List.toArray fvs) fn) :: rest2) = R at hq6 hq7 N8
    with_unfolding_all refine' lam2 (P := 87) (c := 89) (own := own) (rest := R) (tab := tab2) (a1 := (bh, listOf (List.toArray vh) nh)) (b1 := (bw, listOf (List.toArray vw) nw)) F8 N8 T C rfl (hI5.mono hq7) ofu.1 ofw.1 (fun q hq => (hr5 q (hq6 q hq)).1) (fun q hq => (hown q hq).1) rfl rfl ?_
    intro f2 c2 oc2 vs2 t5 ctv2 h7 tk7 tab3 rest3 F9 N9 hI9 hsub6 hcm2 hdc2 hvc2 hnew2 hf2
    have hsub3 : ∀ q ∈ rest2, q ∈ rest3 := fun q hq => hsub6 q (hq7 q hq)
    have hr9 : ∀ q ∈ rest3, @Ne Nat q.1 87 ∧ @Ne Nat q.1 bw ∧ @Ne Nat q.1 bh := fun q hq => (hnew2 q hq).elim (fun h => hr5 q (hq6 q h)) fun h => ⟨Nat.ne_of_gt h.1, Nat.ne_of_gt h.2.2.1, Nat.ne_of_gt h.2.1⟩
    clear F8 N8
    k_steps
    refine Stop.go ?_
    try dsimp only
    have hpR2 : ∀ j (h : j < H.length), ltH sz st b (kn : Int) H[j] = decide (((plAt sz st b kn - plAt sz st b kn % g : Nat) : Int) + gi ≤ (j : Int)) := by rw [hgi]; exact hr3
    with_unfolding_all refine' bisHr w p loose mean mg mb (sz := sz) (st := st) (b := b) (kn := kn) _ B F9 X N9 T rfl ?d2 ?u2 hH (by omega) hHm hkn (by omega) hok hF ?y2 hpR2 ?r02 ?rn2 (hsub3 _ (hsub2 _ (hP4 _ hm5))) hcm2 (hsub3 _ (hsub2 _ (hP4 _ hmh))) d5 hdc2 hvc2 ?_
    case d2 => ktr_room
    case u2 => ktr_units
    case y2 => rfl
    case r02 => omega
    case rn2 => rw [hgi, hHl]; omega
    intro tr2 h8 tk8 F10 N10
    clear F9 N9
    k_steps
    · rename _ + _ ≠ _ + _ => hne
      exact absurd rfl hne
    refine Stop.go ?_
    dsimp only [InvPostG]
    with_unfolding_all refine' kst_endG (tab3, rest3) F10 N10 ?hn ?ho ?ha trivial ?hk2 ?hr2 ?hp2
    case hn => exact List.forall_mem_cons.mpr ⟨List.mem_cons_of_mem _ (List.mem_cons_self ..), List.forall_mem_cons.mpr ⟨List.mem_cons_self .., List.forall_mem_cons.mpr ⟨List.mem_cons_of_mem _ (List.mem_cons_of_mem _ (List.mem_cons_of_mem _ (List.mem_cons_self ..))), fun q hq => List.mem_cons_of_mem _ (List.mem_cons_of_mem _ (List.mem_cons_of_mem _ (List.mem_cons_of_mem _ (List.mem_append_left _ hq))))⟩⟩⟩
    case ho => exact fun q hq => List.mem_cons_of_mem _ (List.mem_cons_of_mem _ (List.mem_cons_of_mem _ (List.mem_cons_of_mem _ (List.mem_append_right _ hq))))
    case ha =>
      intro q hq9 x hx
      rcases List.mem_cons.mp hx with e | hx
      · rw [e]; exact (hown q hq9).2.1
      · rcases List.mem_cons.mp hx with e | hx
        · rw [e]; exact (hown q hq9).2.2
        · rcases List.mem_cons.mp hx with e | hx
          · rw [e]; exact (hown q hq9).1
          · obtain ⟨y, hy, e⟩ := List.mem_map.mp hx
            rw [← e]
            rcases hnew2 y hy with h1 | h1
            · rcases hnew y (hq6 y h1) with h2 | h2
              · exact hoff q hq9 _ (List.mem_cons_of_mem _ (List.mem_cons_of_mem _ (List.mem_cons_of_mem _ (List.mem_map_of_mem (hq4 y h2)))))
              · exact Nat.ne_of_lt (h2.2.2.2 q hq9)
            · exact Nat.ne_of_lt (h1.2.2.2 q hq9)
    case hk2 => exact List.forall_mem_nil _
    case hr2 =>
      intro z hz _ hz2
      have hzl : z ≠ Str.ofString "lower" := by intro e; rw [e] at hz2; revert hz2; decide
      show (if z = _ then _ else if z = _ then _ else if (["lower"] : List Str).contains z = true then _ else _) = _
      rw [if_neg hzl, if_neg hz, if_neg (by rw [hz2]; decide)]
    case hp2 => exact ⟨hI9, fun q hq => hsub3 _ (hsub2 _ (hP4 q hq)), hr9⟩
end
theorem strs_app {vs us : List Value} {ss ts : List Str} (h : StrsAre vs ss) (g : StrsAre us ts) : StrsAre (vs ++ us) (ss ++ ts) := by
  induction h with
  | nil => exact g
  | cons s t _ ih => exact .cons s t ih
theorem strs_rev {vs : List Value} {ss : List Str} (h : StrsAre vs ss) : StrsAre vs.reverse ss.reverse := by
  induction h with
  | nil => exact .nil
  | cons s t _ ih =>
    rw [List.reverse_cons, List.reverse_cons]
    exact strs_app ih (.cons s t .nil)
section
local macro_rules | `(tactic| walk_at "execs cons") => `(tactic| refine Stop.intro ?_)
local macro_rules | `(tactic| walk_at "call ref") => `(tactic| refine Stop.intro ?_)
local macro_rules | `(tactic| walk_at "last callWith ref") => `(tactic| refine Stop.intro ?_)
theorem lawI1 (w : World) (p : Program) (loose : List Str) (mean : ExcName → Option Value) (mg mb : Str → Option Value)
    (dp un : Nat) (gd : Option (List Code)) (fa : Addr) (A₀ : Around) (base h₀ : Heap) (L : Addr) (s : Shared) (Q : Flow → Shared → Prop) (E : Value → Shared → Prop)
    (B : Below A₀ base [] h₀) (X : (hd.heap_39 w.params).In h₀) (C : CodeHd h₀ 89 87) (T : Top p loose mean mg mb h₀) (hdp : dp + 20 < recursionLimit) (hu : un + 200 < cLine) (hL87 : @LT.lt Nat _ 87 L)
    (m : Str → Option Value) (bw bh rl hl pl pp : Addr) (vw vh rvs fvs pvs prv : List Value) (nw nh rn fn pn pq : Nat) (sz st b g : Nat) (gi : Int) (t2 tg : Tok) (wd first : Str) (prs : List Str) (o1 o2 o3 o4 o5 o6 o7 : Obj) (tab : Array Value) (rest : List (Addr × Obj)) (W : List Int) (w0 : Nat) (hok : Okp sz st b)
    (hW : IntsAre vw W) (hWl : W.length = sz) (hW0 : W.getD 0 0 = (w0 : Int)) (hw0 : w0 < sz) (hR : StrsAre rvs ((List.range sz).map fun k => rdS wd k)) (hprs : StrsAre prv prs) (hpl : prs.length ≤ 64) (hr1 : repl prs (Txt.mul (Str.ofString "ab") gi) = some first) (hfirst : rdS wd w0 = first) (hr2 : repl prs.reverse first = some (Txt.mul (Str.ofString "ab") gi))
    (hgi : gi = (g : Int)) (hg0 : 0 < g) (hg16 : g ≤ 16)
    (hb : ∀ q ∈ [(rl, listOf (List.toArray rvs) rn), (hl, listOf (List.toArray fvs) fn), (pl, listOf (List.toArray pvs) pn), (L + 1 + 1 + 1 + 1 + 1 + 1 + 1, o7), (L + 1 + 1 + 1 + 1 + 1 + 1, o6), (L + 1 + 1 + 1 + 1 + 1, o5), (L + 1 + 1 + 1 + 1, o4), (L + 1 + 1 + 1, o3), (L + 1 + 1, o2), (L + 1, o1)], q ∈ rest) (hpp : (pp, listOf (List.toArray prv) pq) ∈ rest)
    (d7 : o7.data = .cell (some (.ref rl)))
    (F : Fr h₀ L s.heap (fun y => if y = Str.ofString "pairs" then some (Value.ref pp) else if y = Str.ofString "measure" then some (Value.int gi tg) else if y = Str.ofString "by_hue" then some (Value.ref bh) else if y = Str.ofString "by_word" then some (Value.ref bw) else m y))
    (N : News h₀ L s.heap ((bw, listOf (List.toArray vw) nw) :: (bh, listOf (List.toArray vh) nh) :: (87, tabObj tab) :: rest))
    (cont : ∀ (m' : Str → Option Value) h' tk', Fr h₀ L h' m' → News h₀ L h' [(87, tabObj tab)] → Q (.ret (.bool true)) { s with heap := h', toks := tk' }) :
    wpAny (model prog w) (ktrTop dp un gd "law" lawScope L fa (.ref 89) (lawCl L) []) (execs (lawBody.drop 15) (envX "law" lawScope L fa (.ref 89) (lawCl L))) Q E s := by
  have hok' := hok
  obtain ⟨hsz, hst0, hst1, hbs⟩ := hok'
  have hs4 : (4 : Int) ≤ (sz : Int) := by omega
  have hs16 : (sz : Int) ≤ 16 := by omega
  have hm7 : (L + 1 + 1 + 1 + 1 + 1 + 1 + 1, o7) ∈ rest := hb _ (List.mem_cons_of_mem _ (List.mem_cons_of_mem _ (List.mem_cons_of_mem _ (List.mem_cons_self ..))))
  have hmr : (rl, listOf (List.toArray rvs) rn) ∈ rest := hb _ (List.mem_cons_self ..)
  have hgs : (0 : Int) < gi := by omega
  have hgt : gi ≤ 16 := by omega
  have N0 : News h₀ L s.heap [(bw, listOf (List.toArray vw) nw), (L + 1 + 1 + 1 + 1 + 1 + 1 + 1, o7), (rl, listOf (List.toArray rvs) rn), (pp, listOf (List.toArray prv) pq), (87, tabObj tab)] := news_sub N (List.forall_mem_cons.mpr ⟨List.mem_cons_self .., List.forall_mem_cons.mpr ⟨List.mem_cons_of_mem _ (List.mem_cons_of_mem _ (List.mem_cons_of_mem _ hm7)), List.forall_mem_cons.mpr ⟨List.mem_cons_of_mem _ (List.mem_cons_of_mem _ (List.mem_cons_of_mem _ hmr)), List.forall_mem_cons.mpr ⟨List.mem_cons_of_mem _ (List.mem_cons_of_mem _ (List.mem_cons_of_mem _ hpp)), List.forall_mem_cons.mpr ⟨List.mem_cons_of_mem _ (List.mem_cons_of_mem _ (List.mem_cons_self ..)), List.forall_mem_nil _⟩⟩⟩⟩⟩)
  clear N
  conv in (execs _ _) => (arg 1; whnf)
  refine wpAny_execs_cons ?_
  have hpv : prv.length ≤ 64 := by rw [strs_len hprs]; exact hpl
  k_steps
  rename Fr _ _ _ _ => F1
  refine star_seq (ws := prv) (its := prv.toArray) F1 N0 (List.mem_cons_of_mem _ (List.mem_cons_of_mem _ (List.mem_cons_of_mem _ (List.mem_cons_self ..)))) rfl rfl (.inl rfl) rfl (by rw [List.size_toArray, PySem.sizeLine_eq]; omega) ?_
  intro h2 F2 N2
  clear F1 N0
  k_steps
  refine Stop.go ?_
  try dsimp only
  with_unfolding_all refine' replC w p loose mean mg mb _ _ _ _ _ _ _ _ _ _ _ _ _ _ _ _ _ _ _ _ _ prs (by rw [List.append_nil]; exact hprs) hpl first hr1 B F2 X N2 T rfl ?d ?u ?_
  case d => ktr_room
  case u => ktr_units
  intro tf h3 tk3 F3 N3
  clear F2 N2
  k_steps
  refine Stop.go (wpAny_execs_cons ?_)
  try dsimp only
  have hW0l : (0 : Int) ≤ W.getD (0 : Int).toNat 0 := by show 0 ≤ W.getD 0 0; omega
  have hW0h : W.getD (0 : Int).toNat 0 < (sz : Int) := by show W.getD 0 0 < _; omega
  have hWn : (W.getD (0 : Int).toNat 0).toNat = w0 := by show (W.getD 0 0).toNat = _; omega
  have hrd : ((List.map (fun k => rdS wd k) (List.range sz)).getD (W.getD (0 : Int).toNat 0).toNat Str.empty == first) = true := by
    rw [hWn, ← hfirst]
    simp [List.getD_eq_getElem?_getD, hw0]
  k_steps
  rename Fr _ _ _ _ => F4
  rename News _ _ _ _ => N4
  with_unfolding_all refine' star_seq (ws := prv.reverse) F4 N4 (List.mem_cons_self ..) rfl rfl (.inl rfl) ?rv ?rz ?_
  case rv => rw [krv_pick]
  case rz =>
    rw [krv_pick]
    show prv.reverse.length ≤ _
    rw [List.length_reverse, PySem.sizeLine_eq]
    omega
  intro h5 F5 N5
  replace N5 := news_tl N5
  clear F4 N4
  have hrv : StrsAre prv.reverse prs.reverse := strs_rev hprs
  k_steps
  refine Stop.go ?_
  try dsimp only
  with_unfolding_all refine' replC w p loose mean mg mb _ _ _ _ _ _ _ _ _ _ _ _ _ _ _ _ _ _ _ _ _ prs.reverse (by rw [List.append_nil]; exact hrv) (by rw [List.length_reverse]; exact hpl) _ hr2 B F5 X N5 T rfl ?d2 ?u2 ?_
  case d2 => ktr_room
  case u2 => ktr_units
  intro tf2 h6 tk6 F6 N6
  clear F5 N5
  have hmm : (Txt.mul (Str.ofString "ab") gi == Txt.mul (Str.ofString "ab") gi) = true := beq_self_eq_true _
  k_steps
  rw [hmm]
  exact cont _ h6 _ F6 (news_sub N6 (List.forall_mem_cons.mpr ⟨List.mem_cons_of_mem _ (List.mem_cons_of_mem _ (List.mem_cons_of_mem _ (List.mem_cons_of_mem _ (List.mem_cons_self ..)))), List.forall_mem_nil _⟩))
end
/-- the bits of the walk's word read as a number -/
def valB : List Bool → Nat
  | [] => 0
  | b :: l => (if b then 2 ^ l.length else 0) + valB l
def buildN (r : Nat → List Nat → Nat) : Nat → List Nat
  | 0 => []
  | k + 1 => (buildN r k).take (r k (buildN r k)) ++ k :: (buildN r k).drop (r k (buildN r k))
def posRN (lt : Nat → Nat → Bool) (x : Nat) (as : List Nat) : Nat := (as.filter fun j => !lt x j).length
def posLN (lt : Nat → Nat → Bool) (x : Nat) (as : List Nat) : Nat := (as.filter fun j => lt j x).length
/-- the walk from a place p: is the next place less? -/
def walkB (sz st p : Nat) : List Bool := (List.range sz).map fun n => Nat.blt ((p + (n + 1) * st) % sz) ((p + n * st) % sz)
def wordV (sz st p : Nat) : Nat := valB (walkB sz st p)
def charsOf (l : List Bool) : List Nat := l.map fun x => if x then 98 else 97
def wordS (sz st p : Nat) : Str := ⟨(charsOf (walkB sz st p)).toArray⟩
def abS (g : Nat) : Str := ⟨(List.replicate g [97, 98]).flatten.toArray⟩
/-- f of each place and what stands there -/
def allAt (f : Nat → Nat → Bool) : List Nat → Nat → Bool
  | [], _ => true
  | x :: l, j => f j x && allAt f l (j + 1)
def runO {α : Type} (n : Nat) (c : Nat → Nat → Bool) : KasT α → Option α
  | .ret a => some a
  | .ask i j k => if (Nat.blt i n && Nat.blt j n) = true then runO n c (k (c i j)) else none
def ltQ (sz st b i j : Nat) : Bool := Nat.ble (Nat.succ (Nat.mod (Nat.add b (Nat.mul i st)) sz)) (Nat.mod (Nat.add b (Nat.mul j st)) sz)
def WN (sz st b : Nat) : List Nat := buildN (posRN (ltQ sz st b)) sz
def HN (sz st b : Nat) : List Nat := buildN (posLN (ltQ sz st b)) sz
def sorts (n : Nat) (lt : Nat → Nat → Bool) (W : List Nat) : Bool := match runO n lt (kas_sort n) with | some a => a.toList == W | none => false
def goPlace (c : Nat → Nat → Bool) (l : List Nat) (x : Nat) : Nat → Nat → Nat → Nat
  | 0, a, _ => a
  | f + 1, a, r => bif Nat.ble r a then a else bif c x (l.getD (Nat.div (Nat.add a r) 2) 0) then goPlace c l x f a (Nat.div (Nat.add a r) 2) else goPlace c l x f (Nat.succ (Nat.div (Nat.add a r) 2)) r
def insD (l : List Nat) (k d : Nat) : List Nat := l.take (k - d) ++ l.getD k 0 :: ((l.drop (k - d)).take d ++ l.drop (k + 1))
def goBin (c : Nat → Nat → Bool) : Nat → List Nat → Nat → List Nat
  | 0, l, _ => l
  | f + 1, l, k => goBin c f (insD l k (k - goPlace c l (l.getD k 0) k 0 k)) (k + 1)
/-- sorts, with lists in the place of arrays: the kernel goes through it faster -/
def sortsQ (n : Nat) (c : Nat → Nat → Bool) (W : List Nat) : Bool :=
  match runO n c (kas_count n (List.toArray (List.range n))) with
  | some r => (Nat.beq r.2.size n && (r.2.toList.all fun x => Nat.blt x n)) && (if r.1 < n then goBin c (n - max r.1 1) r.2.toList (max r.1 1) == W else r.2.toList == W)
  | none => false
theorem runO_bind {α β : Type} {n : Nat} {c : Nat → Nat → Bool} {f : α → KasT β} : ∀ t : KasT α, runO n c (t.bind f) = (runO n c t).bind fun a => runO n c (f a)
  | .ret a => rfl
  | .ask i j k => by
    show (if (Nat.blt i n && Nat.blt j n) = true then runO n c ((k (c i j)).bind f) else none) = (if (Nat.blt i n && Nat.blt j n) = true then runO n c (k (c i j)) else none).bind fun a => runO n c (f a)
    split
    · exact runO_bind (k (c i j))
    · rfl
theorem arr_getD (p : Array Nat) (i : Nat) : p.getD i 0 = p.toList.getD i 0 := by
  rw [Array.getD_eq_getD_getElem?, List.getD_eq_getElem?_getD, Array.getElem?_toList]
theorem place_run {n : Nat} {c : Nat → Nat → Bool} {p : Array Nat} {k : Nat} (hn : ∀ i, p.getD i 0 < n) : ∀ f l r, runO n c (kas_place p k f l r) = some (goPlace c p.toList (p.toList.getD k 0) f l r)
  | 0, _, _ => rfl
  | f + 1, l, r => by
    show runO n c (if l ≥ r then .ret l else .ask (p.getD k 0) (p.getD ((l + r) / 2) 0) fun b => if b = true then kas_place p k f l ((l + r) / 2) else kas_place p k f ((l + r) / 2 + 1) r) = some (bif Nat.ble r l then l else bif c (p.toList.getD k 0) (p.toList.getD ((l + r) / 2) 0) then goPlace c p.toList (p.toList.getD k 0) f l ((l + r) / 2) else goPlace c p.toList (p.toList.getD k 0) f ((l + r) / 2 + 1) r)
    by_cases h : l ≥ r
    · rw [if_pos h, Nat.ble_eq.mpr h]
      rfl
    · have hb : Nat.ble r l = false := by cases e : Nat.ble r l with | false => rfl | true => exact absurd (Nat.ble_eq.mp e) h
      rw [if_neg h, hb, cond_false]
      show (if (Nat.blt (p.getD k 0) n && Nat.blt (p.getD ((l + r) / 2) 0) n) = true then runO n c (if c (p.getD k 0) (p.getD ((l + r) / 2) 0) = true then kas_place p k f l ((l + r) / 2) else kas_place p k f ((l + r) / 2 + 1) r) else none) = _
      rw [if_pos (by rw [Nat.blt_eq.mpr (hn k), Nat.blt_eq.mpr (hn _)]; rfl), arr_getD p k, arr_getD p ((l + r) / 2)]
      by_cases hc : c (p.toList.getD k 0) (p.toList.getD ((l + r) / 2) 0) = true
      · rw [if_pos hc, place_run hn, hc, cond_true]
      · rw [if_neg hc, place_run hn, Bool.eq_false_iff.mpr hc, cond_false]
theorem bubble_insD {p : Array Nat} {k d : Nat} (hk : k < p.size) (hd : d ≤ k) : (bubble p k d).toList = insD p.toList k d := by
  apply List.ext_getElem?
  intro j
  rw [Array.getElem?_toList, getElem?_bubble hk d hd]
  have hl : p.toList.length = p.size := Array.length_toList
  have hx : p[k]? = some (p.toList.getD k 0) := by rw [← Array.getElem?_toList, List.getD_eq_getElem?_getD, List.getElem?_eq_getElem (by omega)]; rfl
  unfold insD
  rw [List.getElem?_append, List.length_take, hl, Nat.min_eq_left (by omega)]
  by_cases h1 : j < k - d
  · rw [if_neg (by omega), if_neg (by omega), if_pos h1, List.getElem?_take_of_lt h1, Array.getElem?_toList]
  · rw [if_neg h1]
    by_cases h2 : j = k - d
    · rw [if_pos h2, h2, Nat.sub_self, List.getElem?_cons_zero, hx]
    · rw [if_neg h2, show j - (k - d) = (j - (k - d) - 1) + 1 by omega, List.getElem?_cons_succ, List.getElem?_append, List.length_take, List.length_drop, hl, Nat.min_eq_left (by omega)]
      by_cases h3 : j ≤ k
      · rw [if_pos ⟨by omega, h3⟩, if_pos (by omega), List.getElem?_take_of_lt (by omega), List.getElem?_drop, Array.getElem?_toList]
        congr 1
        omega
      · rw [if_neg (by omega), if_neg (by omega), List.getElem?_drop, Array.getElem?_toList]
        congr 1
        omega
theorem bubble_lt {n : Nat} {p : Array Nat} {k d : Nat} (h0 : 0 < n) (hn : ∀ i, p.getD i 0 < n) (i : Nat) : (bubble p k d).getD i 0 < n := by
  rw [Array.getD_eq_getD_getElem?]
  cases h : (bubble p k d)[i]? with
  | none => exact h0
  | some x =>
    have hm : x ∈ p := ((bubble_perm p k d).mem_iff).mp (Array.mem_of_getElem? h)
    obtain ⟨j, hj⟩ := Array.getElem?_of_mem hm
    have := hn j
    rw [Array.getD_eq_getD_getElem?, hj] at this
    exact this
theorem bin_run {n : Nat} {c : Nat → Nat → Bool} (h0 : 0 < n) : ∀ f p k, k + f ≤ p.size → (∀ i, p.getD i 0 < n) → runO n c (kas_bin f p k) = some (goBin c f p.toList k).toArray
  | 0, _, _, _, _ => rfl
  | f + 1, p, k, hs, hn => by
    show runO n c ((kas_place p k k 0 k).bind fun l => kas_bin f (bubble p k (k - l)) (k + 1)) = _
    rw [runO_bind, place_run hn]
    show runO n c (kas_bin f (bubble p k (k - goPlace c p.toList (p.toList.getD k 0) k 0 k)) (k + 1)) = _
    rw [bin_run h0 f _ (k + 1) (by rw [bubble_size]; omega) (bubble_lt h0 hn), bubble_insD (by omega) (by omega)]
    rfl
theorem sortsQ_ok {n : Nat} {c : Nat → Nat → Bool} {W : List Nat} (h0 : 0 < n) (h : sortsQ n c W = true) : sorts n c W = true := by
  unfold sortsQ at h
  cases hr : runO n c (kas_count n (List.toArray (List.range n))) with
  | none => rw [hr] at h; cases h
  | some r =>
    rw [hr] at h
    simp only [Bool.and_eq_true] at h
    obtain ⟨⟨h1, h2⟩, h3⟩ := h
    have hsz : r.2.size = n := Nat.eq_of_beq_eq_true h1
    have hn : ∀ i, r.2.getD i 0 < n := by
      intro i
      rw [Array.getD_eq_getD_getElem?]
      cases h : r.2[i]? with
      | none => exact h0
      | some x => exact Nat.blt_eq.mp (List.all_eq_true.mp h2 x (Array.mem_toList_iff.mpr (Array.mem_of_getElem? h)))
    unfold sorts kas_sort
    rw [runO_bind, hr]
    show (match runO n c (if r.1 < n then kas_bin (n - max r.1 1) r.2 (max r.1 1) else .ret r.2) with | some a => a.toList == W | none => false) = true
    by_cases hlt : r.1 < n
    · rw [if_pos hlt] at h3
      rw [if_pos hlt, bin_run h0 _ _ _ (by omega) hn]
      exact h3
    · rw [if_neg hlt] at h3
      rw [if_neg hlt]
      exact h3
def gg (sz st : Nat) : Nat := Nat.gcd st sz
def chkR (sz st : Nat) : Bool := (List.range sz).all fun p => (List.range sz).all fun q => !(Nat.beq (p % gg sz st) (q % gg sz st)) || (Nat.blt (wordV sz st p) (wordV sz st q) == Nat.blt p q)
def prs (sz st : Nat) : List Str := (euc 16 ((sz : Int) - (st : Int)) (st : Int) []).2
def chkW (sz st : Nat) : Bool := decide ((euc 16 ((sz : Int) - (st : Int)) (st : Int) []).1 = ((gg sz st : Nat) : Int)) && (Nat.ble (prs sz st).length 64 &&
  (List.range (gg sz st)).all fun c => decide (repl (prs sz st) (abS (gg sz st)) = some (wordS sz st c)) && decide (repl (prs sz st).reverse (wordS sz st c) = some (abS (gg sz st))))
def chkB (sz st b : Nat) : Bool := sortsQ sz (ltQ sz st b) (WN sz st b) && (allAt (fun j x => Nat.beq (plAt sz st b x) (j - j % gg sz st + b % gg sz st)) (WN sz st b) 0 && (allAt (fun j x => Nat.beq (plAt sz st b x) (j - j % gg sz st + b % gg sz st)) (HN sz st b) 0 &&
  (WN sz (sz - st) ((b + (sz - 1) * st) % sz)).map (fun i => sz - 1 - i) == HN sz st b))
theorem chkR_4 : ∀ st ∈ List.range' 1 3, chkR 4 st = true ∧ chkW 4 st = true := by decide +kernel
theorem chkR_8 : ∀ st ∈ List.range' 1 7, chkR 8 st = true ∧ chkW 8 st = true := by decide +kernel
theorem chkR_16_1 : chkR 16 1 = true := by decide +kernel
theorem chkW_16_1 : chkW 16 1 = true := by decide +kernel
theorem chkR_16_2 : chkR 16 2 = true := by decide +kernel
theorem chkW_16_2 : chkW 16 2 = true := by decide +kernel
theorem chkR_16_3 : chkR 16 3 = true := by decide +kernel
theorem chkW_16_3 : chkW 16 3 = true := by decide +kernel
theorem chkR_16_4 : chkR 16 4 = true := by decide +kernel
theorem chkW_16_4 : chkW 16 4 = true := by decide +kernel
theorem chkR_16_5 : chkR 16 5 = true := by decide +kernel
theorem chkW_16_5 : chkW 16 5 = true := by decide +kernel
theorem chkR_16_6 : chkR 16 6 = true := by decide +kernel
theorem chkW_16_6 : chkW 16 6 = true := by decide +kernel
theorem chkR_16_7 : chkR 16 7 = true := by decide +kernel
theorem chkW_16_7 : chkW 16 7 = true := by decide +kernel
theorem chkR_16_8 : chkR 16 8 = true := by decide +kernel
theorem chkW_16_8 : chkW 16 8 = true := by decide +kernel
theorem chkR_16_9 : chkR 16 9 = true := by decide +kernel
theorem chkW_16_9 : chkW 16 9 = true := by decide +kernel
theorem chkR_16_10 : chkR 16 10 = true := by decide +kernel
theorem chkW_16_10 : chkW 16 10 = true := by decide +kernel
theorem chkR_16_11 : chkR 16 11 = true := by decide +kernel
theorem chkW_16_11 : chkW 16 11 = true := by decide +kernel
theorem chkR_16_12 : chkR 16 12 = true := by decide +kernel
theorem chkW_16_12 : chkW 16 12 = true := by decide +kernel
theorem chkR_16_13 : chkR 16 13 = true := by decide +kernel
theorem chkW_16_13 : chkW 16 13 = true := by decide +kernel
theorem chkR_16_14 : chkR 16 14 = true := by decide +kernel
theorem chkW_16_14 : chkW 16 14 = true := by decide +kernel
theorem chkR_16_15 : chkR 16 15 = true := by decide +kernel
theorem chkW_16_15 : chkW 16 15 = true := by decide +kernel
theorem chkB_4 : ∀ st ∈ List.range' 1 3, ∀ b ∈ List.range 4, chkB 4 st b = true := by decide +kernel
theorem chkB_8 : ∀ st ∈ List.range' 1 7, ∀ b ∈ List.range 8, chkB 8 st b = true := by decide +kernel
theorem chkB_16_1 : ∀ b ∈ List.range 16, chkB 16 1 b = true := by decide +kernel
theorem chkB_16_2 : ∀ b ∈ List.range 16, chkB 16 2 b = true := by decide +kernel
theorem chkB_16_3 : ∀ b ∈ List.range 16, chkB 16 3 b = true := by decide +kernel
theorem chkB_16_4 : ∀ b ∈ List.range 16, chkB 16 4 b = true := by decide +kernel
theorem chkB_16_5 : ∀ b ∈ List.range 16, chkB 16 5 b = true := by decide +kernel
theorem chkB_16_6 : ∀ b ∈ List.range 16, chkB 16 6 b = true := by decide +kernel
theorem chkB_16_7 : ∀ b ∈ List.range 16, chkB 16 7 b = true := by decide +kernel
theorem chkB_16_8 : ∀ b ∈ List.range 16, chkB 16 8 b = true := by decide +kernel
theorem chkB_16_9 : ∀ b ∈ List.range 16, chkB 16 9 b = true := by decide +kernel
theorem chkB_16_10 : ∀ b ∈ List.range 16, chkB 16 10 b = true := by decide +kernel
theorem chkB_16_11 : ∀ b ∈ List.range 16, chkB 16 11 b = true := by decide +kernel
theorem chkB_16_12 : ∀ b ∈ List.range 16, chkB 16 12 b = true := by decide +kernel
theorem chkB_16_13 : ∀ b ∈ List.range 16, chkB 16 13 b = true := by decide +kernel
theorem chkB_16_14 : ∀ b ∈ List.range 16, chkB 16 14 b = true := by decide +kernel
theorem chkB_16_15 : ∀ b ∈ List.range 16, chkB 16 15 b = true := by decide +kernel
theorem abS_eq : ∀ g ∈ List.range 17, abS g = Txt.mul (Str.ofString "ab") (g : Int) := by decide +kernel
abbrev wdOf (sz st b : Nat) : Str := Txt.join (Str.ofString "") ((List.range sz).map fun k => letS (stepDown sz st b k))
theorem join_toList : ∀ l : List Str, (Txt.join (Str.ofString "") l).cps.toList = (l.map fun x => x.cps.toList).flatten := by
  intro l
  unfold Txt.join
  rw [StrLaws.glued_eq_join]
  induction l with
  | nil => rfl
  | cons x r ih =>
    cases r with
    | nil => show x.cps.toList = [x.cps.toList].flatten; simp
    | cons y r =>
      show (x.cps ++ (Str.ofString "").cps ++ (Str.join (Str.ofString "") (y :: r)).cps).toList = _
      have e : (Str.ofString "").cps = #[] := by decide +kernel
      rw [e, Array.append_empty, Array.toList_append, ih]
      rfl
theorem letS_chars (d : Bool) : (letS d).cps.toList = [if d then 98 else 97] := by cases d <;> decide +kernel
theorem wd_chars (sz st b : Nat) : (wdOf sz st b).cps.toList = charsOf ((List.range sz).map (stepDown sz st b)) := by
  rw [join_toList]
  unfold charsOf
  rw [List.map_map, List.map_map]
  generalize List.range sz = l
  induction l with
  | nil => rfl
  | cons k l ih =>
    rw [List.map_cons, List.flatten_cons, ih, List.map_cons]
    show (letS (stepDown sz st b k)).cps.toList ++ _ = _
    rw [letS_chars]
    rfl
theorem wd_len (sz st b : Nat) : (wdOf sz st b).length = sz := by
  show (wdOf sz st b).cps.size = sz
  rw [← Array.length_toList, wd_chars]
  unfold charsOf
  simp
theorem rd_chars {wd : Str} {k : Nat} (hk : k ≤ wd.length) : (rdS wd k).cps.toList = wd.cps.toList.drop k ++ wd.cps.toList.take k := by
  have hl : wd.cps.toList.length = wd.length := Array.length_toList
  have e1 : Txt.slice wd (some (k : Int)) none = ⟨((wd.cps.toList.drop (k : Int).toNat).take ((wd.length : Int) - k).toNat).toArray⟩ := slice_from_eq (by omega) (by omega) rfl
  have e2 : Txt.slice wd none (some (k : Int)) = ⟨((wd.cps.toList.drop (0 : Int).toNat).take ((k : Int) - 0).toNat).toArray⟩ := eq_of_beq (slice_closes_to ⟨by omega, by omega⟩)
  show ((Txt.slice wd (some (k : Int)) none).cps ++ (Txt.slice wd none (some (k : Int))).cps).toList = _
  rw [e1, e2, Array.toList_append]
  show (wd.cps.toList.drop k).take ((wd.length : Int) - k).toNat ++ (wd.cps.toList.drop 0).take ((k : Int) - 0).toNat = _
  rw [List.take_of_length_le (by rw [List.length_drop]; omega), List.drop_zero, show ((k : Int) - 0).toNat = k by omega]
theorem plAt_mod {sz st b j : Nat} : plAt sz st b (j % sz) = plAt sz st b j := by
  unfold plAt
  have h := Nat.div_add_mod j sz
  have e : b + j * st = b + j % sz * st + sz * (j / sz * st) := by
    conv => lhs; rw [← h]
    rw [Nat.add_mul, Nat.mul_assoc]
    omega
  rw [e, Nat.add_mul_mod_self_left]
theorem plAt_add {sz st b k n : Nat} : (plAt sz st b k + n * st) % sz = plAt sz st b (k + n) := by
  unfold plAt
  rw [Nat.mod_add_mod, Nat.add_mul, Nat.add_assoc]
theorem step_eq {sz st b j : Nat} : stepDown sz st b (j % sz) = Nat.blt (plAt sz st b (j + 1)) (plAt sz st b j) := by
  unfold stepDown
  rw [plAt_mod, plAt_mod]
  have e : plAt sz st b (j % sz + 1) = plAt sz st b (j + 1) := by
    rw [← plAt_mod (j := j + 1), ← plAt_mod (j := j % sz + 1), Nat.mod_add_mod]
  rw [e]
  cases h : Nat.blt (plAt sz st b (j + 1)) (plAt sz st b j)
  · exact decide_eq_false fun g => by rw [Nat.blt_eq.mpr g] at h; cases h
  · exact decide_eq_true (Nat.blt_eq.mp h)
theorem walk_rot {sz st b k : Nat} (hk : k < sz) : ((List.range sz).map (stepDown sz st b)).drop k ++ ((List.range sz).map (stepDown sz st b)).take k = walkB sz st (plAt sz st b k) := by
  apply List.ext_getElem
  · unfold walkB; simp; omega
  · intro n h1 h2
    have hn : n < sz := by unfold walkB at h2; simpa using h2
    have er : (walkB sz st (plAt sz st b k))[n] = Nat.blt (plAt sz st b (k + n + 1)) (plAt sz st b (k + n)) := by
      have e0 : (walkB sz st (plAt sz st b k))[n] = Nat.blt ((plAt sz st b k + (n + 1) * st) % sz) ((plAt sz st b k + n * st) % sz) := by
        simp only [walkB, List.getElem_map, List.getElem_range]
      rw [e0, plAt_add, plAt_add]
      rfl
    rw [er, ← step_eq]
    rw [List.getElem_append]
    split
    · rename_i h
      rw [List.getElem_drop, List.getElem_map, List.getElem_range]
      rw [List.length_drop, List.length_map, List.length_range] at h
      rw [Nat.mod_eq_of_lt (by omega)]
    · rename_i h
      rw [List.getElem_take, List.getElem_map, List.getElem_range]
      rw [List.length_drop, List.length_map, List.length_range] at h
      rw [List.length_drop, List.length_map, List.length_range]
      congr 1
      rw [Nat.mod_eq_sub_mod (by omega), Nat.mod_eq_of_lt (by omega)]
      omega
theorem charsOf_app (a b : List Bool) : charsOf (a ++ b) = charsOf a ++ charsOf b := List.map_append ..
theorem rd_walk {sz st b k : Nat} (hk : k < sz) : (rdS (wdOf sz st b) k).cps.toList = charsOf (walkB sz st (plAt sz st b k)) := by
  rw [rd_chars (by rw [wd_len]; omega), wd_chars, ← walk_rot hk, charsOf_app]
  unfold charsOf
  rw [List.map_drop, List.map_take]
theorem rd_word {sz st b k : Nat} (hk : k < sz) : rdS (wdOf sz st b) k = wordS sz st (plAt sz st b k) := by
  have h := rd_walk (b := b) (st := st) hk
  unfold wordS
  rw [← h]
theorem valB_lt : ∀ l : List Bool, valB l < 2 ^ l.length
  | [] => by show 0 < 2 ^ 0; decide
  | b :: l => by
    have h := valB_lt l
    show (if b then 2 ^ l.length else 0) + valB l < 2 ^ (l.length + 1)
    rw [Nat.pow_succ]
    cases b <;> simp <;> omega
theorem chars_lt : ∀ (l m : List Bool), l.length = m.length → (charsOf l < charsOf m ↔ valB l < valB m)
  | [], [], _ => by simp [charsOf, valB]
  | [], _ :: _, h => by simp at h
  | _ :: _, [], h => by simp at h
  | a :: l, b :: m, h => by
    have hl : l.length = m.length := by simpa using h
    have ih := chars_lt l m hl
    have v1 := valB_lt l
    have v2 := valB_lt m
    rw [hl] at v1
    show (((if a then 98 else 97) :: charsOf l : List Nat) < ((if b then 98 else 97) :: charsOf m)) ↔ (if a then 2 ^ l.length else 0) + valB l < (if b then 2 ^ m.length else 0) + valB m
    rw [List.cons_lt_cons_iff, ih, hl]
    cases a <;> cases b <;> simp <;> omega
theorem walk_len (sz st p : Nat) : (walkB sz st p).length = sz := by unfold walkB; simp
theorem ltW_val {sz st b i j : Nat} (hi : i < sz) (hj : j < sz) : ltW (wdOf sz st b) (i : Int) (j : Int) = decide (wordV sz st (plAt sz st b i) < wordV sz st (plAt sz st b j)) := by
  unfold ltW
  rw [Int.toNat_natCast, Int.toNat_natCast, rd_walk hi, rd_walk hj]
  exact decide_eq_decide.mpr (chars_lt _ _ (by rw [walk_len, walk_len]))
theorem plAt_gg {sz st b k : Nat} : plAt sz st b k % gg sz st = b % gg sz st := by
  unfold plAt gg
  rw [Nat.mod_mod_of_dvd _ (Nat.gcd_dvd_right st sz)]
  obtain ⟨c, hc⟩ := Nat.gcd_dvd_left st sz
  have e : k * st = Nat.gcd st sz * (k * c) := by
    conv => lhs; rw [hc]
    rw [Nat.mul_left_comm]
  rw [e, Nat.add_mul_mod_self_left]
theorem all_range {n : Nat} {f : Nat → Bool} (h : (List.range n).all f = true) {k : Nat} (hk : k < n) : f k = true := List.all_eq_true.mp h k (List.mem_range.mpr hk)
theorem gg_pos {sz st : Nat} (h : 0 < st) : 0 < gg sz st := Nat.gcd_pos_of_pos_left _ h
theorem ltW_key {sz st b i j : Nat} (hR : chkR sz st = true) (hsz : 0 < sz) (hi : i < sz) (hj : j < sz) : ltW (wdOf sz st b) (i : Int) (j : Int) = decide (plAt sz st b i < plAt sz st b j) := by
  rw [ltW_val hi hj]
  have h := all_range (all_range hR (plAt_lt (st := st) (b := b) (k := i) hsz)) (plAt_lt (st := st) (b := b) (k := j) hsz)
  rw [plAt_gg, plAt_gg] at h
  have e : Nat.beq (b % gg sz st) (b % gg sz st) = true := Nat.beq_refl _
  rw [e] at h
  have h' : (Nat.blt (wordV sz st (plAt sz st b i)) (wordV sz st (plAt sz st b j)) == Nat.blt (plAt sz st b i) (plAt sz st b j)) = true := h
  have h2 := eq_of_beq h'
  refine decide_eq_decide.mpr ⟨fun g => ?_, fun g => ?_⟩
  · exact Nat.blt_eq.mp (h2 ▸ Nat.blt_eq.mpr g)
  · exact Nat.blt_eq.mp (h2.symm ▸ Nat.blt_eq.mpr g)
theorem part_at {α : Type} (p : α → Bool) : ∀ (as : List α), as.Pairwise (fun a b => p b = true → p a = true) → ∀ j (h : j < as.length), p as[j] = decide (j < (as.filter p).length)
  | [], _, j, h => nomatch h
  | a :: l, hp, j, h => by
    obtain ⟨h1, h2⟩ := List.pairwise_cons.mp hp
    cases ha : p a with
    | false =>
      have hn : ∀ x ∈ a :: l, p x = false := by
        intro x hx
        rcases List.mem_cons.mp hx with rfl | hx
        · exact ha
        · cases hpx : p x with
          | false => rfl
          | true => rw [h1 x hx hpx] at ha; cases ha
      have e : (a :: l).filter p = [] := List.filter_eq_nil_iff.mpr fun x hx => by rw [hn x hx]; decide
      rw [e, hn _ (List.getElem_mem h)]
      simp
    | true =>
      rw [List.filter_cons_of_pos ha]
      cases j with
      | zero => simpa using ha
      | succ j =>
        have h' : j < l.length := by simpa using h
        have ih := part_at p l h2 j h'
        rw [List.getElem_cons_succ, ih]
        simp
theorem part_take {α : Type} (p : α → Bool) : ∀ (as : List α), as.Pairwise (fun a b => p b = true → p a = true) → as.take (as.filter p).length = as.filter p ∧ as.drop (as.filter p).length = as.filter fun a => !p a
  | [], _ => by simp
  | a :: l, hp => by
    obtain ⟨h1, h2⟩ := List.pairwise_cons.mp hp
    cases ha : p a with
    | false =>
      have hn : ∀ x ∈ a :: l, p x = false := by
        intro x hx
        rcases List.mem_cons.mp hx with rfl | hx
        · exact ha
        · cases hpx : p x with
          | false => rfl
          | true => rw [h1 x hx hpx] at ha; cases ha
      have e : (a :: l).filter p = [] := List.filter_eq_nil_iff.mpr fun x hx => by rw [hn x hx]; decide
      rw [e]
      refine ⟨rfl, ?_⟩
      rw [List.filter_eq_self.mpr fun x hx => by rw [hn x hx]; rfl]
      rfl
    | true =>
      have ih := part_take p l h2
      rw [List.filter_cons_of_pos ha, List.filter_cons_of_neg (by rw [ha]; decide)]
      refine ⟨?_, ?_⟩
      · rw [List.length_cons, List.take_succ_cons, ih.1]
      · rw [List.length_cons, List.drop_succ_cons, ih.2]
/-- inserting keeps the order -/
theorem ins_sorted {α : Type} (p : α → Bool) (R : α → α → Prop) (x : α) (as : List α) (hs : as.Pairwise R) (hp : as.Pairwise (fun a b => p b = true → p a = true)) (h1 : ∀ a ∈ as, p a = true → R a x) (h2 : ∀ a ∈ as, p a = false → R x a) (h3 : ∀ a b, R a x → R x b → R a b) :
    (as.take (as.filter p).length ++ x :: as.drop (as.filter p).length).Pairwise R := by
  obtain ⟨e1, e2⟩ := part_take p as hp
  rw [e1, e2]
  have g1 : ∀ a ∈ as.filter p, R a x := fun a ha => h1 a (List.mem_filter.mp ha).1 (List.mem_filter.mp ha).2
  have g2 : ∀ a ∈ as.filter (fun a => !p a), R x a := fun a ha => h2 a (List.mem_filter.mp ha).1 (by have := (List.mem_filter.mp ha).2; simpa using this)
  refine List.pairwise_append.mpr ⟨hs.filter p, List.pairwise_cons.mpr ⟨g2, hs.filter _⟩, fun a ha b hb => ?_⟩
  rcases List.mem_cons.mp hb with rfl | hb
  · exact g1 a ha
  · exact h3 a b (g1 a ha) (g2 b hb)
section
variable {lt : Int → Int → Bool} {key : Nat → Nat} {sz : Nat} (hlt : ∀ i j : Nat, i < sz → j < sz → lt (i : Int) (j : Int) = decide (key i < key j))
include hlt
theorem lt_key {i j : Int} (hi : 0 ≤ i ∧ i < (sz : Int)) (hj : 0 ≤ j ∧ j < (sz : Int)) : lt i j = decide (key i.toNat < key j.toNat) := by
  have h := hlt i.toNat j.toNat (by omega) (by omega)
  rw [Int.toNat_of_nonneg hi.1, Int.toNat_of_nonneg hj.1] at h
  exact h
theorem monoR {k : Nat} (hk : k < sz) {as : List Int} (hm : ∀ i ∈ as, 0 ≤ i ∧ i < (sz : Int)) (hs : as.Pairwise fun a b => key a.toNat ≤ key b.toNat) : as.Pairwise (fun a b => (!lt (k : Int) b) = true → (!lt (k : Int) a) = true) := by
  refine (List.pairwise_iff_forall_sublist.mpr fun {a b} hsub => ?_)
  have hab := List.pairwise_iff_forall_sublist.mp hs hsub
  have ha := hm a (hsub.subset (List.mem_cons_self ..))
  have hb := hm b (hsub.subset (List.mem_cons_of_mem _ (List.mem_cons_self ..)))
  rw [lt_key hlt (i := k) ⟨by omega, by omega⟩ ha, lt_key hlt (i := k) ⟨by omega, by omega⟩ hb]
  simp only [Int.toNat_natCast, Bool.not_eq_true', decide_eq_false_iff_not]
  omega
theorem monoL {k : Nat} (hk : k < sz) {as : List Int} (hm : ∀ i ∈ as, 0 ≤ i ∧ i < (sz : Int)) (hs : as.Pairwise fun a b => key a.toNat ≤ key b.toNat) : as.Pairwise (fun a b => lt b (k : Int) = true → lt a (k : Int) = true) := by
  refine (List.pairwise_iff_forall_sublist.mpr fun {a b} hsub => ?_)
  have hab := List.pairwise_iff_forall_sublist.mp hs hsub
  have ha := hm a (hsub.subset (List.mem_cons_self ..))
  have hb := hm b (hsub.subset (List.mem_cons_of_mem _ (List.mem_cons_self ..)))
  rw [lt_key hlt ha (j := k) ⟨by omega, by omega⟩, lt_key hlt hb (j := k) ⟨by omega, by omega⟩]
  simp only [Int.toNat_natCast, decide_eq_true_eq]
  omega
theorem sortedR : ∀ k, k ≤ sz → (build (posR lt) k).Pairwise fun a b => key a.toNat ≤ key b.toNat
  | 0, _ => List.Pairwise.nil
  | k + 1, h => by
    have hs := sortedR k (by omega)
    have hm : ∀ i ∈ build (posR lt) k, 0 ≤ i ∧ i < (sz : Int) := fun i hi => by have := build_mem k i hi; omega
    refine ins_sorted (fun j => !lt (k : Int) j) _ (k : Int) _ hs (monoR hlt (by omega) hm hs) (fun a ha hp => ?_) (fun a ha hp => ?_) fun a b g1 g2 => Nat.le_trans g1 g2
    · have e := lt_key hlt (i := k) ⟨by omega, by omega⟩ (hm a ha)
      simp only [e, Int.toNat_natCast, Bool.not_eq_true', decide_eq_false_iff_not] at hp
      rw [Int.toNat_natCast]
      omega
    · have e := lt_key hlt (i := k) ⟨by omega, by omega⟩ (hm a ha)
      simp only [e, Int.toNat_natCast, Bool.not_eq_false', decide_eq_true_eq] at hp
      rw [Int.toNat_natCast]
      omega
theorem sortedL : ∀ k, k ≤ sz → (build (posL lt) k).Pairwise fun a b => key a.toNat ≤ key b.toNat
  | 0, _ => List.Pairwise.nil
  | k + 1, h => by
    have hs := sortedL k (by omega)
    have hm : ∀ i ∈ build (posL lt) k, 0 ≤ i ∧ i < (sz : Int) := fun i hi => by have := build_mem k i hi; omega
    refine ins_sorted (fun j => lt j (k : Int)) _ (k : Int) _ hs (monoL hlt (by omega) hm hs) (fun a ha hp => ?_) (fun a ha hp => ?_) fun a b g1 g2 => Nat.le_trans g1 g2
    · have e := lt_key hlt (hm a ha) (j := k) ⟨by omega, by omega⟩
      simp only [e, Int.toNat_natCast, decide_eq_true_eq] at hp
      rw [Int.toNat_natCast]
      omega
    · have e := lt_key hlt (hm a ha) (j := k) ⟨by omega, by omega⟩
      simp only [e, Int.toNat_natCast, decide_eq_false_iff_not] at hp
      rw [Int.toNat_natCast]
      omega
theorem partR_of : PartR lt sz := by
  intro k hk j h
  have hs := sortedR hlt k (by omega)
  have hm : ∀ i ∈ build (posR lt) k, 0 ≤ i ∧ i < (sz : Int) := fun i hi => by have := build_mem k i hi; omega
  have e := part_at (fun j => !lt (k : Int) j) _ (monoR hlt hk hm hs) j h
  have e' : (!lt (k : Int) (build (posR lt) k)[j]) = decide (j < posR lt k (build (posR lt) k)) := e
  have e2 : lt (k : Int) (build (posR lt) k)[j] = !decide (j < posR lt k (build (posR lt) k)) := by rw [← e', Bool.not_not]
  rw [e2, ← decide_not]
  exact decide_eq_decide.mpr (by omega)
theorem partL_of : PartL lt sz := by
  intro k hk j h
  have hs := sortedL hlt k (by omega)
  have hm : ∀ i ∈ build (posL lt) k, 0 ≤ i ∧ i < (sz : Int) := fun i hi => by have := build_mem k i hi; omega
  have e := part_at (fun j => lt j (k : Int)) _ (monoL hlt hk hm hs) j h
  have e' : lt (build (posL lt) k)[j] (k : Int) = decide (j < posL lt k (build (posL lt) k)) := e
  rw [e']
  exact decide_eq_decide.mpr (by omega)
end
theorem buildN_mem {r : Nat → List Nat → Nat} : ∀ k, ∀ i ∈ buildN r k, i < k
  | 0, i, h => nomatch h
  | k + 1, i, h => by
    have h' : i ∈ (buildN r k).take (r k (buildN r k)) ++ k :: (buildN r k).drop (r k (buildN r k)) := h
    have ih := buildN_mem (r := r) k i
    rcases List.mem_append.mp h' with h1 | h1
    · have := ih (List.mem_of_mem_take h1)
      omega
    · rcases List.mem_cons.mp h1 with rfl | h1
      · omega
      · have := ih (List.mem_of_mem_drop h1)
        omega
theorem buildN_len {r : Nat → List Nat → Nat} : ∀ k, (buildN r k).length = k
  | 0 => rfl
  | k + 1 => by
    show ((buildN r k).take _ ++ k :: (buildN r k).drop _).length = k + 1
    rw [List.length_append, List.length_cons, List.length_take, List.length_drop, buildN_len k]
    omega
theorem ltQ_key (sz st b i j : Nat) : ltQ sz st b i j = decide (plAt sz st b i < plAt sz st b j) := by
  show Nat.blt (plAt sz st b i) (plAt sz st b j) = _
  cases h : Nat.blt (plAt sz st b i) (plAt sz st b j)
  · exact (decide_eq_false fun g => by rw [Nat.blt_eq.mpr g] at h; cases h).symm
  · exact (decide_eq_true (Nat.blt_eq.mp h)).symm
section
variable {lt : Int → Int → Bool} {ltn : Nat → Nat → Bool} {sz : Nat} (hlt : ∀ i j : Nat, i < sz → j < sz → lt (i : Int) (j : Int) = ltn i j)
include hlt
theorem buildR_nat : ∀ k, k ≤ sz → build (posR lt) k = (buildN (posRN ltn) k).map fun n : Nat => (n : Int)
  | 0, _ => rfl
  | k + 1, h => by
    have ih := buildR_nat k (by omega)
    have er : posR lt (k : Int) (build (posR lt) k) = posRN ltn k (buildN (posRN ltn) k) := by
      rw [ih]
      unfold posR posRN
      rw [List.filter_map, List.length_map]
      refine congrArg List.length (List.filter_congr fun i hi => ?_)
      have := buildN_mem k i hi
      show (!lt (k : Int) (i : Int)) = !ltn k i
      rw [hlt k i (by omega) (by omega)]
    show (build (posR lt) k).take (posR lt (k : Int) (build (posR lt) k)) ++ (k : Int) :: (build (posR lt) k).drop (posR lt (k : Int) (build (posR lt) k)) = ((buildN (posRN ltn) k).take (posRN ltn k (buildN (posRN ltn) k)) ++ k :: (buildN (posRN ltn) k).drop (posRN ltn k (buildN (posRN ltn) k))).map fun n : Nat => (n : Int)
    rw [er, ih, List.map_append, List.map_cons, List.map_take, List.map_drop]
theorem buildL_nat : ∀ k, k ≤ sz → build (posL lt) k = (buildN (posLN ltn) k).map fun n : Nat => (n : Int)
  | 0, _ => rfl
  | k + 1, h => by
    have ih := buildL_nat k (by omega)
    have er : posL lt (k : Int) (build (posL lt) k) = posLN ltn k (buildN (posLN ltn) k) := by
      rw [ih]
      unfold posL posLN
      rw [List.filter_map, List.length_map]
      refine congrArg List.length (List.filter_congr fun i hi => ?_)
      have := buildN_mem k i hi
      show lt (i : Int) (k : Int) = ltn i k
      rw [hlt i k (by omega) (by omega)]
    show (build (posL lt) k).take (posL lt (k : Int) (build (posL lt) k)) ++ (k : Int) :: (build (posL lt) k).drop (posL lt (k : Int) (build (posL lt) k)) = ((buildN (posLN ltn) k).take (posLN ltn k (buildN (posLN ltn) k)) ++ k :: (buildN (posLN ltn) k).drop (posLN ltn k (buildN (posLN ltn) k))).map fun n : Nat => (n : Int)
    rw [er, ih, List.map_append, List.map_cons, List.map_take, List.map_drop]
end
theorem runO_ok {α : Type} {n : Nat} {c c' : Nat → Nat → Bool} (hc : ∀ i j, i < n → j < n → c' i j = c i j) {a : α} : ∀ t : KasT α, runO n c t = some a → okT n c' t = true ∧ runT c' t = a
  | .ret x, h => by
    have h' : some x = some a := h
    exact ⟨rfl, by cases h'; rfl⟩
  | .ask i j k, h => by
    have h' : (if (Nat.blt i n && Nat.blt j n) = true then runO n c (k (c i j)) else none) = some a := h
    by_cases hb : (Nat.blt i n && Nat.blt j n) = true
    · rw [if_pos hb] at h'
      simp only [Bool.and_eq_true] at hb
      have e := hc i j (Nat.blt_eq.mp hb.1) (Nat.blt_eq.mp hb.2)
      have ih := runO_ok hc (k (c i j)) h'
      refine ⟨?_, ?_⟩
      · show (Nat.blt i n && (Nat.blt j n && okT n c' (k (c' i j)))) = true
        rw [hb.1, hb.2, e, ih.1]
        rfl
      · show runT c' (k (c' i j)) = a
        rw [e, ih.2]
    · rw [if_neg hb] at h'
      cases h'
theorem sorts_ok {n : Nat} {ltn : Nat → Nat → Bool} {W : List Nat} (h : sorts n ltn W = true) {kz : List Int} (hk : kz.length = n) (hc : ∀ i j, i < n → j < n → cmpK kz i j = ltn i j) (hW : ∀ i ∈ W, i < n) : sortOk kz = true ∧ sortIdx kz = W := by
  unfold sorts at h
  cases hr : runO n ltn (kas_sort n) with
  | none => rw [hr] at h; cases h
  | some a =>
    rw [hr] at h
    have e : a.toList = W := eq_of_beq h
    obtain ⟨h1, h2⟩ := runO_ok hc _ hr
    have e2 : sortIdx kz = W := by
      unfold sortIdx
      rw [hk, h2, e]
    refine ⟨?_, e2⟩
    unfold sortOk
    rw [e2, hk, h1]
    exact List.all_eq_true.mpr fun i hi => Nat.blt_eq.mpr (hW i hi)
theorem cmp_plL {sz st b i j : Nat} (hi : i < sz) (hj : j < sz) : cmpK (plL sz st b) i j = ltQ sz st b i j := by
  unfold cmpK
  rw [plL_get hi, plL_get hj, ltQ_key]
  exact decide_eq_decide.mpr (by omega)
theorem plR_eq {sz st b : Nat} (h : st < sz) : plR sz st b = plL sz (sz - st) ((b + (sz - 1) * st) % sz) := by
  unfold plR plL
  refine List.map_congr_left fun i hi => ?_
  have hi' := List.mem_range.mp hi
  congr 1
  unfold plAt
  rw [Nat.mod_add_mod]
  obtain ⟨d, rfl⟩ : ∃ d, sz = st + d := ⟨sz - st, by omega⟩
  obtain ⟨e, he⟩ : ∃ e, st + d - 1 = i + e := ⟨st + d - 1 - i, by omega⟩
  have e1 : st + d - 1 - i = e := by omega
  have e2 : st + d - st = d := by omega
  rw [e1, e2, he]
  have e3 : b + (i + e) * st + i * d = b + e * st + (st + d) * i := by
    rw [Nat.add_mul, Nat.add_mul, Nat.mul_comm i st, Nat.mul_comm i d]
    omega
  rw [e3, Nat.add_mul_mod_self_left]
theorem allAt_get {f : Nat → Nat → Bool} : ∀ (l : List Nat) (n : Nat), allAt f l n = true → ∀ j (h : j < l.length), f (n + j) l[j] = true
  | [], _, _, j, h => nomatch h
  | x :: l, n, ha, j, h => by
    have ha' : (f n x && allAt f l (n + 1)) = true := ha
    simp only [Bool.and_eq_true] at ha'
    cases j with
    | zero => exact ha'.1
    | succ j =>
      have := allAt_get l (n + 1) ha'.2 j (by simpa using h)
      rw [List.getElem_cons_succ, show n + (j + 1) = n + 1 + j by omega]
      exact this
theorem row_lt {g j q c : Nat} (hg : 0 < g) (hq : q % g = c) : (j - j % g + c < q ↔ j < q - q % g) := by
  have e1 := Nat.div_add_mod j g
  have e2 := Nat.div_add_mod q g
  have v1 := Nat.mod_lt j hg
  have v2 := Nat.mod_lt q hg
  by_cases h : j / g < q / g
  · have := Nat.mul_le_mul_left g (Nat.succ_le_of_lt h)
    rw [Nat.mul_succ] at this
    omega
  · have := Nat.mul_le_mul_left g (Nat.le_of_not_lt h)
    omega
theorem row_gt {g j q c : Nat} (hg : 0 < g) (hq : q % g = c) : (q < j - j % g + c ↔ q - q % g + g ≤ j) := by
  have e1 := Nat.div_add_mod j g
  have e2 := Nat.div_add_mod q g
  have v1 := Nat.mod_lt j hg
  have v2 := Nat.mod_lt q hg
  by_cases h : q / g < j / g
  · have := Nat.mul_le_mul_left g (Nat.succ_le_of_lt h)
    rw [Nat.mul_succ] at this
    omega
  · have := Nat.mul_le_mul_left g (Nat.le_of_not_lt h)
    omega
theorem row_le {g q sz : Nat} (hg : 0 < g) (hd : g ∣ sz) (hq : q < sz) : q - q % g + g ≤ sz := by
  obtain ⟨c, rfl⟩ := hd
  have e2 := Nat.div_add_mod q g
  have v2 := Nat.mod_lt q hg
  have h : q / g < c := Nat.div_lt_of_lt_mul hq
  have := Nat.mul_le_mul_left g (Nat.succ_le_of_lt h)
  rw [Nat.mul_succ] at this
  omega
theorem chk_R {sz st b : Nat} (hok : Okp sz st b) : chkR sz st = true ∧ chkW sz st = true := by
  obtain ⟨hsz, h0, h1, hb⟩ := hok
  rcases hsz with rfl | rfl | rfl
  · exact chkR_4 st (List.mem_range'_1.mpr ⟨by omega, by omega⟩)
  · exact chkR_8 st (List.mem_range'_1.mpr ⟨by omega, by omega⟩)
  · have h : st = 1 ∨ st = 2 ∨ st = 3 ∨ st = 4 ∨ st = 5 ∨ st = 6 ∨ st = 7 ∨ st = 8 ∨ st = 9 ∨ st = 10 ∨ st = 11 ∨ st = 12 ∨ st = 13 ∨ st = 14 ∨ st = 15 := by omega
    rcases h with rfl | rfl | rfl | rfl | rfl | rfl | rfl | rfl | rfl | rfl | rfl | rfl | rfl | rfl | rfl
    · exact ⟨chkR_16_1, chkW_16_1⟩
    · exact ⟨chkR_16_2, chkW_16_2⟩
    · exact ⟨chkR_16_3, chkW_16_3⟩
    · exact ⟨chkR_16_4, chkW_16_4⟩
    · exact ⟨chkR_16_5, chkW_16_5⟩
    · exact ⟨chkR_16_6, chkW_16_6⟩
    · exact ⟨chkR_16_7, chkW_16_7⟩
    · exact ⟨chkR_16_8, chkW_16_8⟩
    · exact ⟨chkR_16_9, chkW_16_9⟩
    · exact ⟨chkR_16_10, chkW_16_10⟩
    · exact ⟨chkR_16_11, chkW_16_11⟩
    · exact ⟨chkR_16_12, chkW_16_12⟩
    · exact ⟨chkR_16_13, chkW_16_13⟩
    · exact ⟨chkR_16_14, chkW_16_14⟩
    · exact ⟨chkR_16_15, chkW_16_15⟩
theorem chk_B {sz st b : Nat} (hok : Okp sz st b) : chkB sz st b = true := by
  obtain ⟨hsz, h0, h1, hb⟩ := hok
  rcases hsz with rfl | rfl | rfl
  · exact chkB_4 st (List.mem_range'_1.mpr ⟨by omega, by omega⟩) b (List.mem_range.mpr hb)
  · exact chkB_8 st (List.mem_range'_1.mpr ⟨by omega, by omega⟩) b (List.mem_range.mpr hb)
  · have h : st = 1 ∨ st = 2 ∨ st = 3 ∨ st = 4 ∨ st = 5 ∨ st = 6 ∨ st = 7 ∨ st = 8 ∨ st = 9 ∨ st = 10 ∨ st = 11 ∨ st = 12 ∨ st = 13 ∨ st = 14 ∨ st = 15 := by omega
    rcases h with rfl | rfl | rfl | rfl | rfl | rfl | rfl | rfl | rfl | rfl | rfl | rfl | rfl | rfl | rfl
    · exact chkB_16_1 b (List.mem_range.mpr hb)
    · exact chkB_16_2 b (List.mem_range.mpr hb)
    · exact chkB_16_3 b (List.mem_range.mpr hb)
    · exact chkB_16_4 b (List.mem_range.mpr hb)
    · exact chkB_16_5 b (List.mem_range.mpr hb)
    · exact chkB_16_6 b (List.mem_range.mpr hb)
    · exact chkB_16_7 b (List.mem_range.mpr hb)
    · exact chkB_16_8 b (List.mem_range.mpr hb)
    · exact chkB_16_9 b (List.mem_range.mpr hb)
    · exact chkB_16_10 b (List.mem_range.mpr hb)
    · exact chkB_16_11 b (List.mem_range.mpr hb)
    · exact chkB_16_12 b (List.mem_range.mpr hb)
    · exact chkB_16_13 b (List.mem_range.mpr hb)
    · exact chkB_16_14 b (List.mem_range.mpr hb)
    · exact chkB_16_15 b (List.mem_range.mpr hb)
abbrev WI (sz st b : Nat) : List Int := build (posR (ltW (wdOf sz st b))) sz
abbrev HI (sz st b : Nat) : List Int := build (posL (ltH sz st b)) sz
theorem ltH_key {sz st b i j : Nat} : ltH sz st b (i : Int) (j : Int) = decide (plAt sz st b i < plAt sz st b j) := by
  unfold ltH
  rw [Int.toNat_natCast, Int.toNat_natCast]
theorem chkB_sorts {sz st b : Nat} (hs : 0 < sz) (h : chkB sz st b = true) : sorts sz (ltQ sz st b) (WN sz st b) = true := by
  unfold chkB at h
  simp only [Bool.and_eq_true] at h
  exact sortsQ_ok hs h.1
theorem chkB_w {sz st b : Nat} (h : chkB sz st b = true) : allAt (fun j x => Nat.beq (plAt sz st b x) (j - j % gg sz st + b % gg sz st)) (WN sz st b) 0 = true := by
  unfold chkB at h
  simp only [Bool.and_eq_true] at h
  exact h.2.1
theorem chkB_h {sz st b : Nat} (h : chkB sz st b = true) : allAt (fun j x => Nat.beq (plAt sz st b x) (j - j % gg sz st + b % gg sz st)) (HN sz st b) 0 = true := by
  unfold chkB at h
  simp only [Bool.and_eq_true] at h
  exact h.2.2.1
theorem chkB_b {sz st b : Nat} (h : chkB sz st b = true) : (WN sz (sz - st) ((b + (sz - 1) * st) % sz)).map (fun i => sz - 1 - i) = HN sz st b := by
  unfold chkB at h
  simp only [Bool.and_eq_true] at h
  exact eq_of_beq h.2.2.2
theorem chkW_e {sz st : Nat} (h : chkW sz st = true) : (euc 16 ((sz : Int) - (st : Int)) (st : Int) []).1 = ((gg sz st : Nat) : Int) := by
  unfold chkW at h
  simp only [Bool.and_eq_true] at h
  exact of_decide_eq_true h.1
theorem chkW_l {sz st : Nat} (h : chkW sz st = true) : (prs sz st).length ≤ 64 := by
  unfold chkW at h
  simp only [Bool.and_eq_true] at h
  exact Nat.ble_eq.mp h.2.1
theorem chkW_r {sz st c : Nat} (h : chkW sz st = true) (hc : c < gg sz st) : repl (prs sz st) (abS (gg sz st)) = some (wordS sz st c) ∧ repl (prs sz st).reverse (wordS sz st c) = some (abS (gg sz st)) := by
  unfold chkW at h
  simp only [Bool.and_eq_true] at h
  have g := all_range h.2.2 hc
  simp only [Bool.and_eq_true] at g
  exact ⟨of_decide_eq_true g.1, of_decide_eq_true g.2⟩
theorem okp_back {sz st b : Nat} (hok : Okp sz st b) : Okp sz (sz - st) ((b + (sz - 1) * st) % sz) := by
  obtain ⟨hsz, h0, h1, hb⟩ := hok
  exact ⟨hsz, by omega, by omega, Nat.mod_lt _ (by omega)⟩
theorem WI_nat {sz st b : Nat} (hok : Okp sz st b) : WI sz st b = (WN sz st b).map fun n : Nat => (n : Int) := by
  obtain ⟨hR, _⟩ := chk_R hok
  obtain ⟨hsz, h0, h1, hb⟩ := hok
  exact buildR_nat (fun i j hi hj => by rw [ltQ_key]; exact ltW_key hR (by omega) hi hj) sz (Nat.le_refl _)
theorem HI_nat {sz st b : Nat} : HI sz st b = (HN sz st b).map fun n : Nat => (n : Int) :=
  buildL_nat (fun i j _ _ => by rw [ltQ_key]; exact ltH_key) sz (Nat.le_refl _)
theorem sort_F {sz st b : Nat} (hok : Okp sz st b) : sortOk (plL sz st b) = true ∧ sortIdx (plL sz st b) = WN sz st b :=
  sorts_ok (chkB_sorts (by have := hok.2.2.1; omega) (chk_B hok)) plL_len (fun _ _ hi hj => cmp_plL hi hj) fun _ hi => buildN_mem sz _ hi
theorem eq_F {sz st b : Nat} (hok : Okp sz st b) : WI sz st b = (sortIdx (plL sz st b)).map fun i : Nat => (0 : Int) + (i : Int) * 1 := by
  rw [WI_nat hok, (sort_F hok).2]
  exact List.map_congr_left fun i _ => by omega
theorem sort_B {sz st b : Nat} (hok : Okp sz st b) : sortOk (plR sz st b) = true ∧ (sortIdx (plR sz st b)).map (fun i => sz - 1 - i) = HN sz st b := by
  rw [plR_eq hok.2.2.1]
  obtain ⟨h1, h2⟩ := sort_F (okp_back hok)
  exact ⟨h1, by rw [h2]; exact chkB_b (chk_B hok)⟩
theorem sortIdx_lt {kz : List Int} (h : sortOk kz = true) : ∀ i ∈ sortIdx kz, i < kz.length := by
  unfold sortOk at h
  simp only [Bool.and_eq_true, List.all_eq_true] at h
  exact fun i hi => Nat.blt_eq.mp (h.2 i hi)
theorem eq_B {sz st b : Nat} (hok : Okp sz st b) : HI sz st b = (sortIdx (plR sz st b)).map fun i : Nat => ((sz : Int) - 1) + (i : Int) * (-1) := by
  obtain ⟨h1, h2⟩ := sort_B hok
  rw [HI_nat, ← h2, List.map_map]
  refine List.map_congr_left fun i hi => ?_
  have := sortIdx_lt h1 i hi
  rw [plR_len] at this
  show ((sz - 1 - i : Nat) : Int) = _
  omega
theorem W_key {sz st b : Nat} (hok : Okp sz st b) {j : Nat} (h : j < (WI sz st b).length) : ∃ i : Nat, (WI sz st b)[j] = (i : Int) ∧ i < sz ∧ plAt sz st b i = j - j % gg sz st + b % gg sz st := by
  have hl : j < (WN sz st b).length := by rw [WI_nat hok, List.length_map] at h; exact h
  refine ⟨(WN sz st b)[j], ?_, buildN_mem sz _ (List.getElem_mem hl), ?_⟩
  · simp only [WI_nat hok, List.getElem_map]
  · have := allAt_get _ 0 (chkB_w (chk_B hok)) j hl
    rw [Nat.zero_add] at this
    exact Nat.eq_of_beq_eq_true this
theorem H_key {sz st b : Nat} (hok : Okp sz st b) {j : Nat} (h : j < (HI sz st b).length) : ∃ i : Nat, (HI sz st b)[j] = (i : Int) ∧ i < sz ∧ plAt sz st b i = j - j % gg sz st + b % gg sz st := by
  have hl : j < (HN sz st b).length := by rw [HI_nat, List.length_map] at h; exact h
  refine ⟨(HN sz st b)[j], ?_, buildN_mem sz _ (List.getElem_mem hl), ?_⟩
  · simp only [HI_nat, List.getElem_map]
  · have := allAt_get _ 0 (chkB_h (chk_B hok)) j hl
    rw [Nat.zero_add] at this
    exact Nat.eq_of_beq_eq_true this
theorem rows_ok {sz st b : Nat} (hok : Okp sz st b) : ∀ k < sz, (plAt sz st b k - plAt sz st b k % gg sz st + gg sz st ≤ sz) ∧ (∀ j (h : j < (WI sz st b).length), ltW (wdOf sz st b) (WI sz st b)[j] (k : Int) = decide ((j : Int) < ((plAt sz st b k - plAt sz st b k % gg sz st : Nat) : Int))) ∧ (∀ j (h : j < (HI sz st b).length), ltH sz st b (k : Int) (HI sz st b)[j] = decide (((plAt sz st b k - plAt sz st b k % gg sz st + gg sz st : Nat) : Int) ≤ (j : Int))) := by
  intro k hk
  have hg : 0 < gg sz st := gg_pos hok.2.1
  have hs : 0 < sz := by omega
  obtain ⟨hR, _⟩ := chk_R hok
  refine ⟨row_le hg (Nat.gcd_dvd_right st sz) (plAt_lt hs), fun j h => ?_, fun j h => ?_⟩
  · obtain ⟨i, e, hi, hp⟩ := W_key hok h
    rw [e, ltW_key hR hs hi hk, hp]
    refine decide_eq_decide.mpr ?_
    rw [row_lt hg plAt_gg]
    omega
  · obtain ⟨i, e, hi, hp⟩ := H_key hok h
    rw [e, ltH_key, hp]
    refine decide_eq_decide.mpr ?_
    rw [row_gt hg plAt_gg]
    omega
theorem gg_le {sz st b : Nat} (hok : Okp sz st b) : gg sz st ≤ 16 := by
  obtain ⟨hsz, h0, h1, hb⟩ := hok
  have := Nat.le_of_dvd h0 (Nat.gcd_dvd_left st sz)
  unfold gg
  omega
theorem first_ok {sz st b : Nat} (hok : Okp sz st b) : ∃ (w0 : Nat) (first : Str), (WI sz st b).getD 0 0 = (w0 : Int) ∧ w0 < sz ∧ repl (prs sz st) (Txt.mul (Str.ofString "ab") ((gg sz st : Nat) : Int)) = some first ∧ rdS (wdOf sz st b) w0 = first ∧ repl (prs sz st).reverse first = some (Txt.mul (Str.ofString "ab") ((gg sz st : Nat) : Int)) := by
  have hg : 0 < gg sz st := gg_pos hok.2.1
  have hs := hok.2.2.1
  have hl : 0 < (WI sz st b).length := by rw [build_len]; omega
  obtain ⟨w0, e, hw, hp⟩ := W_key hok hl
  obtain ⟨r1, r2⟩ := chkW_r (chk_R hok).2 (Nat.mod_lt b hg)
  rw [abS_eq (gg sz st) (List.mem_range.mpr (by have := gg_le hok; omega))] at r1 r2
  refine ⟨w0, wordS sz st (b % gg sz st), ?_, hw, r1, ?_, r2⟩
  · rw [← e]
    simp [List.getD_eq_getElem?_getD, hl]
  · rw [rd_word hw, hp, Nat.zero_mod, Nat.sub_self, Nat.zero_add]
theorem partW_ok {sz st b : Nat} (hok : Okp sz st b) : PartR (ltW (wdOf sz st b)) sz := by
  obtain ⟨hR, _⟩ := chk_R hok
  exact partR_of (key := plAt sz st b) fun i j hi hj => ltW_key hR (by omega) hi hj
theorem partH_ok {sz st b : Nat} : PartL (ltH sz st b) sz := partL_of (key := plAt sz st b) fun _ _ _ _ => ltH_key
theorem lawAll (w : World) (p : Program) (loose : List Str) (mean : ExcName → Option Value) (mg mb : Str → Option Value)
    (dp un : Nat) (gd : Option (List Code)) (fa : Addr) (A₀ : Around) (base h₀ : Heap) (L : Addr) (s : Shared) (Q : Flow → Shared → Prop) (E : Value → Shared → Prop)
    (B : Below A₀ base [] h₀) (X : (hd.heap_39 w.params).In h₀) (C : CodeHd h₀ 89 87) (T : Top p loose mean mg mb h₀) (hdp : dp + 20 < recursionLimit) (hu : un + 200 < cLine) (hL87 : @LT.lt Nat _ 87 L) (hE : PassesOwn (model prog w) (ktrTop dp un gd "law" lawScope L fa (.ref 89) (lawCl L) []) (envX "law" lawScope L fa (.ref 89) (lawCl L)) E)
    (sl : Addr) (vs : List Value) (ns : List Int) (hsl : h₀.IsList sl vs.toArray) (hI : IntsAre vs ns) (hlen : ns.length ≤ 63)
    (o1 o2 o3 o4 o5 o6 o7 : Obj) (d1 : o1.data = .cell none) (d2 : o2.data = .cell none) (d3 : o3.data = .cell none) (d4 : o4.data = .cell none) (d5 : o5.data = .cell none) (d6 : o6.data = .cell none) (d7 : o7.data = .cell none)
    (m : Str → Option Value) (hm : m = fun y => if y = Str.ofString "script" then some (Value.ref sl) else none)
    (F : Fr h₀ L s.heap m) (N : News h₀ L s.heap [(L + 1 + 1 + 1 + 1 + 1 + 1 + 1, o7), (L + 1 + 1 + 1 + 1 + 1 + 1, o6), (L + 1 + 1 + 1 + 1 + 1, o5), (L + 1 + 1 + 1 + 1, o4), (L + 1 + 1 + 1, o3), (L + 1 + 1, o2), (L + 1, o1), (87, tabObj #[])])
    (cont : ∀ tab (m' : Str → Option Value) h' tk', Fr h₀ L h' m' → News h₀ L h' [(87, tabObj tab)] → Q (.ret (.bool true)) { s with heap := h', toks := tk' }) :
    wpAny (model prog w) (ktrTop dp un gd "law" lawScope L fa (.ref 89) (lawCl L) []) (execs lawBody (envX "law" lawScope L fa (.ref 89) (lawCl L))) Q E s := by
  refine lawA w p loose mean mg mb dp un gd fa A₀ base h₀ L _ Q E B X C T hdp hu hL87 sl vs ns hsl hI hlen o1 o2 o3 o4 o5 o6 o7 d1 d2 d3 d4 d5 d6 d7 m hm F N ?_
  clear d1 d2 d3 d6 F N
  intro h1 k1 nl pl nvs nn pvs pn ns4 sz st b t2 t3 o1 o2 o3 o6 hok hnv hn4 hpv d1 d2 d3 d6 ofp ofn onp F N
  refine lawB1 w p loose mean mg mb dp un gd fa A₀ base h₀ L _ Q E B X C T hdp hu hL87 m nl pl nvs pvs nn pn ns4 sz st b t2 t3 o1 o2 o3 o4 o5 o6 o7 hok hnv hn4 hpv d1 d2 d3 d5 d6 ofp ofn onp F N ?_
  clear d5 F N
  intro h2 k2 hl fvs fn o5 hF d5 ofh ohp F N
  refine lawC1 w p loose mean mg mb dp un gd fa A₀ base h₀ L _ Q E B X C T hdp hu hL87 m hl pl fvs pvs fn pn sz st b t2 t3 o1 o2 o3 o4 o5 o6 o7 hok hF hpv d2 d4 d5 d6 ofp ofh ohp F N ?_
  clear d4 F N
  intro h3 k3 o4 wt d4 F N
  refine lawD1 w p loose mean mg mb dp un gd fa A₀ base h₀ L _ Q E B X C T hdp hu hL87 m hl pl fvs pvs fn pn sz t2 t3 (wdOf sz st b) wt o1 o2 o3 o4 o5 o6 o7 hok.1 (wd_len sz st b) d2 d4 d7 ofp ofh ohp F N ?_
  clear d7 F N
  intro h4 k4 o7 rl rvs rn hR d7 ofr orh orp F N
  refine lawE1 w p loose mean mg mb dp un gd fa A₀ base h₀ L _ Q E B X C T hdp hu hL87 m rl hl pl rvs fvs pvs rn fn pn o1 o2 o3 o4 o5 o6 o7 F N ?_
  clear F N
  intro h5 k5 bw bh ofw ofu ow ou F N
  refine lawE2 w p loose mean mg mb dp un gd fa A₀ base h₀ L _ Q E B X C T hdp hu hL87 hE m bw bh rl hl pl rvs fvs pvs rn fn pn sz st b t2 (wdOf sz st b) o1 o2 o3 o4 o5 o6 o7 hok hR hF d2 d5 d7 ofw ofu ofp ofh ofr ow ou (partW_ok hok) partH_ok F N ?_
  clear F N
  intro vw nw vh nh tab rest m' h6 k6 hW hH hT hb hq F N
  refine lawF1 w p loose mean mg mb dp un gd fa A₀ base h₀ L _ Q E B X C T hdp hu hL87 m' bw bh rl hl pl vw vh rvs fvs pvs nw nh rn fn pn sz st b t2 o1 o2 o3 o4 o5 o6 o7 tab rest (WI sz st b) hok hW (build_len sz) hpv hT hb hq d2 d6 ofw ofu ofp (sort_F hok).1 (eq_F hok) F N ?_
  clear hT hb hq F N
  intro tab rest h7 k7 hT hb hq F N
  refine lawF2 w p loose mean mg mb dp un gd fa A₀ base h₀ L _ Q E B X C T hdp hu hL87 m' bw bh rl hl pl vw vh rvs fvs pvs nw nh rn fn pn sz st b t2 o1 o2 o3 o4 o5 o6 o7 tab rest (HI sz st b) hok hH (build_len sz) hpv hT hb hq d2 d6 ofw ofu ofp (sort_B hok).1 (eq_B hok) F N ?_
  clear hT hb hq F N
  intro tab rest h8 k8 hT hb hq F N
  refine lawG1 w p loose mean mg mb dp un gd fa A₀ base h₀ L _ Q E B X C T hdp hu hL87 m' bw bh rl hl pl vw vh rvs fvs pvs nw nh rn fn pn sz st b t2 t3 o1 o2 o3 o4 o5 o6 o7 tab rest hok hT hb hq d2 d3 F N ?_
  clear hT hb hq F N
  intro pp prv pq tg rest h9 k9 hT hprv hpp hb hq F N
  obtain ⟨w0, first, hw0, hwl, hr1, hfi, hr2⟩ := first_ok hok
  have he := chkW_e (chk_R hok).2
  refine lawH1 w p loose mean mg mb dp un gd fa A₀ base h₀ L _ Q E B X C T hdp hu hL87 hE m' bw bh rl hl pl pp vw vh rvs fvs pvs nw nh rn fn pn sz st b (gg sz st) _ t2 tg (wdOf sz st b) o1 o2 o3 o4 o5 o6 o7 tab rest (WI sz st b) (HI sz st b) hok hW (build_len sz) (build_mem sz) hH (build_len sz) (build_mem sz) hR hF hpv he (gg_pos hok.2.1) (rows_ok hok) hT hb hq d2 d5 d6 d7 ofw ofu ou.2.2.2 F N ?_
  clear hT hq F N
  intro tab rest' m9 h10 k10 hsub hq F N
  refine lawI1 w p loose mean mg mb dp un gd fa A₀ base h₀ L _ Q E B X C T hdp hu hL87 m9 bw bh rl hl pl pp vw vh rvs fvs pvs prv nw nh rn fn pn pq sz st b (gg sz st) _ t2 tg (wdOf sz st b) first (prs sz st) o1 o2 o3 o4 o5 o6 o7 tab rest' (WI sz st b) w0 hok hW (build_len sz) hw0 hwl hR hprv (chkW_l (chk_R hok).2) (by rw [he]; exact hr1) hfi (by rw [he]; exact hr2) he (gg_pos hok.2.1) (gg_le hok) (fun q h => hsub q (hb q h)) (hsub _ hpp) d7 F N ?_
  intro m' h' tk' F N
  exact cont tab m' h' tk' F N
end Mine
open Mine
theorem PySem.Challenge.cw_pm0035_01_holds : PySem.Challenge.rw_pm0035_01.Holds := by
  refine hd ?_
  k_go0
  rename IntsAre _ _ => hI
  rename Fr _ _ _ _ => F
  rename News _ _ _ _ => N
  rename (_ < _) => l0
  with_unfolding_all refine' lawAll _ _ _ _ _ _ (callerA.depth + 1) (callerA.units + 3) (some []) _ callerA _ _ _ _ _ _ ?B ?X codeHd ?T ?d ?u l0 ?hE _ _ _ lifted hI ?len _ _ _ _ _ _ _ ?d1 ?d2 ?d3 ?d4 ?d5 ?d6 ?d7 _ ?m F N ?cont
  case B => k_asm
  case X => k_asm
  case T => k_asm
  case d => decide +kernel
  case u => decide +kernel
  case hE => passes_own
  case len => omega
  case d1 => assumption
  case d2 => assumption
  case d3 => assumption
  case d4 => assumption
  case d5 => assumption
  case d6 => assumption
  case d7 => assumption
  case m => exact funext fun _ => rfl
  case cont =>
    intro tab m' h' tk' F N
    refine And.intro ?_ (And.intro (GrownAt.of N (List.mem_cons_self ..)) True.intro)
    dsimp only
    k_steps
