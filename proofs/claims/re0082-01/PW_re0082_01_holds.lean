import PyProof.Rows.All
import Wide.All
import OpenK.AllK
import Wide.FinOn
import PySem.Challenge.RW_re0082_01
set_option Elab.async false
set_option maxRecDepth 100000
set_option maxHeartbeats 8000000
section
open PySem PySem.W PyProof.Rows
namespace Mine
open_top hd for PySem.Challenge.rw_re0082_01
end Mine
end
section
open PySem PySem.W PyProof.Rows PySem.Calls PySem.Spec
namespace Mine
noncomputable abbrev PR : Program := Challenge.rw_re0082_01.row.prog
noncomputable abbrev KK (w : World) : Frag := hd.heap_39 w.params
abbrev tupO (vs : List Value) (n : Nat := 0) : Obj := { cls := .type "tuple", data := .seq vs.toArray n }

/-- a call that gives a value and changes nothing that is known -/
def Gives (w : World) (d : Nat) (need : List (Addr × Obj)) (f : Value) (args : List Value) (kw : List (Str × Value)) (R : Tok → Value) : Prop :=
  ∀ (p : Program) (loose : List Str) (mean : ExcName → Option Value) (mg mb : Str → Option Value) (dp un : Nat) (gd : Option (List Code)) (cn : Str) (cs : Scope) (a : Addr) (ccd : Value) (cl : List (Str × Addr)) (outer : List Env) (A₀ : Around) (base h₀ : Heap) (L : Addr) (m : Str → Option Value) (news : List (Addr × Obj)) (s : Shared) (Q E : Value → Shared → Prop),
    Below A₀ base outer h₀ → Fr h₀ L s.heap m → (KK w).In h₀ → News h₀ L s.heap news → Top p loose mean mg mb h₀ → cs.kind = .function → (∀ q ∈ need, q ∈ news) →
    dp + d < recursionLimit → un + 12 * d < cLine →
    (∀ (t : Tok) (h' : Heap) (tk' : Nat), Fr h₀ L h' m → News h₀ L h' news → Q (R t) { s with heap := h', toks := tk' }) →
    wpAny (model PR w) (ktrTop dp un gd cn cs L a ccd cl outer) (call f args kw) Q E s

/-- a call that turns one object -/
def Turns (w : World) (d : Nat) (need : List (Addr × Obj)) (l : Addr) (o o' : Obj) (f : Value) (args : List Value) (kw : List (Str × Value)) (R : Value) : Prop :=
  ∀ (p : Program) (loose : List Str) (mean : ExcName → Option Value) (mg mb : Str → Option Value) (dp un : Nat) (gd : Option (List Code)) (cn : Str) (cs : Scope) (a : Addr) (ccd : Value) (cl : List (Str × Addr)) (outer : List Env) (A₀ : Around) (base h₀ : Heap) (L : Addr) (m : Str → Option Value) (news : List (Addr × Obj)) (s : Shared) (Q E : Value → Shared → Prop),
    Below A₀ base outer h₀ → Fr h₀ L s.heap m → (KK w).In h₀ → News h₀ L s.heap ((l, o) :: news) → (∀ q ∈ news, q.1 ≠ l) → Top p loose mean mg mb h₀ → cs.kind = .function → (∀ q ∈ need, q ∈ news) →
    dp + d < recursionLimit → un + 12 * d < cLine →
    (∀ (h' : Heap) (tk' : Nat), Fr h₀ L h' m → News h₀ L h' ((l, o') :: news) → Q R { s with heap := h', toks := tk' }) →
    wpAny (model PR w) (ktrTop dp un gd cn cs L a ccd cl outer) (call f args kw) Q E s

/-- a call that makes a tuple -/
def MakesT (w : World) (d : Nat) (need : List (Addr × Obj)) (f : Value) (args : List Value) (kw : List (Str × Value)) (P : List Value → Prop) : Prop :=
  ∀ (p : Program) (loose : List Str) (mean : ExcName → Option Value) (mg mb : Str → Option Value) (dp un : Nat) (gd : Option (List Code)) (cn : Str) (cs : Scope) (a : Addr) (ccd : Value) (cl : List (Str × Addr)) (outer : List Env) (A₀ : Around) (base h₀ : Heap) (L : Addr) (m : Str → Option Value) (news : List (Addr × Obj)) (s : Shared) (Q E : Value → Shared → Prop),
    Below A₀ base outer h₀ → Fr h₀ L s.heap m → (KK w).In h₀ → News h₀ L s.heap news → Top p loose mean mg mb h₀ → cs.kind = .function → (∀ q ∈ need, q ∈ news) →
    dp + d < recursionLimit → un + 12 * d < cLine →
    (∀ (vs : List Value) (b : Addr) (h' : Heap) (tk' : Nat), P vs → Fr h₀ L h' m → News h₀ L h' ((b, tupO vs) :: news) → (∀ q ∈ news, q.1 < b) → Q (.ref b) { s with heap := h', toks := tk' }) →
    wpAny (model PR w) (ktrTop dp un gd cn cs L a ccd cl outer) (call f args kw) Q E s

/-- a mark at which the walk stands still -/
def Held (P : Prop) : Prop := P
theorem held {P : Prop} (h : Held P) : P := h
theorem held_out {P : Prop} (h : P) : Held P := h
theorem news_in {h₀ h : Heap} {L : Addr} {need news : List (Addr × Obj)} (N : News h₀ L h news) (hs : ∀ q ∈ need, q ∈ news) : News h₀ L h (need ++ news) :=
  fun p hp => (List.mem_append.mp hp).elim (fun q => N p (hs p q)) (N p)
theorem news_out {h₀ h : Heap} {L : Addr} {need news : List (Addr × Obj)} (N : News h₀ L h (need ++ news)) : News h₀ L h news :=
  fun p hp => N p (List.mem_append.mpr (.inr hp))
theorem news_tl {h₀ h : Heap} {L : Addr} {q : Addr × Obj} {news : List (Addr × Obj)} (N : News h₀ L h (q :: news)) : News h₀ L h news :=
  fun p hp => N p (.tail _ hp)

theorem first_ok (w : World) (r : Addr) (x : Int) (t : Tok) (b c : Value) (n : Nat) :
    Gives w 1 [(r, tupO [.int x t, b, c] n)] (.ref 78) [.ref r] [] (fun t => .int x t) := by
  unfold Gives KK PR
  k_fill
  intro p loose mean mg mb dp un gd cn cs a ccd cl outer A₀ base h₀ L m news s Q E B F X N T hk hn hd hu hret
  have N := news_in N hn
  simp only [List.cons_append, List.nil_append] at N
  refine wpAny_call ?_
  k_dflt cell_enter
  k_steps
  exact hret t _ _ (by assumption) (news_tl (by assumption))

/-- how many of the keys lie below x, the keys rising -/
def lowB (ks : List Int) (x : Int) : Nat := (ks.filter (fun k => decide (k < x))).length
def upB (ks : List Int) (x : Int) : Nat := (ks.filter (fun k => decide (k ≤ x))).length
/-- f is a def of the text, or a function that the call has made -/
def FnOk (w : World) (need : List (Addr × Obj)) (f : Addr) : Prop :=
  ∀ (h₀ : Heap) (L : Addr) (h : Heap) (news : List (Addr × Obj)), (KK w).In h → News h₀ L h news → (∀ q ∈ need, q ∈ news) → FnAt f h
def KeyOk (w : World) (need : List (Addr × Obj)) (f : Addr) (its : List Value) (ks : List Int) : Prop :=
  ∀ (i : Nat) (v : Value) (k : Int), its[i]? = some v → ks[i]? = some k → Gives w 1 need (.ref f) [v] [] (fun t => .int k t)
end Mine
end
section
open PySem PySem.W PyProof.Rows PySem.Calls PySem.Spec
namespace Mine
local macro_rules | `(tactic| walk_at $s:str) => do
  unless ["exec While Compare cons nil", "subscriptTail Name Name ref int", "callWith ref", "FnAt", "call builtin:len", "KswEnd"].contains s.getString do Lean.Macro.throwUnsupported
  `(tactic| refine held ?_)

theorem bl_gen (w : World) (l f : Addr) (its : List Value) (n0 : Nat) (ks : List Int) (x : Int) (tx : Tok) (more : List Value) (tlo : Tok) (hm : (more = [] ∧ tlo = 242) ∨ more = [.int 0 tlo, .none]) (need : List (Addr × Obj)) (r : Nat) (hlen : its.length = ks.length) (hbig : ks.length < 1000000) (hfn : FnOk w need f) (hkey : KeyOk w need f its ks)
    (hr : r ≤ ks.length) (hr1 : ∀ (i : Nat) k, ks[i]? = some k → i < r → k < x) (hr2 : ∀ (i : Nat) k, ks[i]? = some k → r ≤ i → x ≤ k) :
    Gives w 2 ((l, listOf its.toArray n0) :: need) (.ref 57) ([.ref l, .int x tx] ++ more) [(Str.ofString "key", .ref f)] (fun t => .int r t) := by
  unfold Gives KK PR
  k_fill
  intro p loose mean mg mb dp un gd cn cs a ccd cl outer A₀ base h₀ L m news s Q E B F X N T hk hn hd hu hret
  have N := news_in N hn
  simp only [List.cons_append, List.nil_append] at N
  refine wpAny_call ?_
  k_dflt (refine' code_def (binds := [(Str.ofString "a", .ref l), (Str.ofString "x", .int x tx), (Str.ofString "lo", .int 0 tlo), (Str.ofString "hi", .none), (Str.ofString "key", .ref f)]) ?k1 ?k2 ?k3 ?k4 ?k5 ?kA ?kF ?kK ?k6 ?k7 ?k8 ?k9 ?kB ?_ ?c2 ?c3 ?c4 ?c5; (case kA => exact rfl); (case kF => exact rfl); (case kK => assumption); (case k1 => k_asm); (case k2 => k_asm); (case k3 => k_asm); (case k4 => k_asm); (case k5 => k_asm); (case k6 => k_is); (case k7 => k_is); (case k8 => ktr_room); (case k9 => (refine' kp_binds ?kx ?ke; (case kx => k_in); (case ke => (intro S; rcases hm with ⟨rfl, rfl⟩ | rfl <;> with_unfolding_all rfl)))); (case c5 => decide); (case kB => exact locs rfl); (case c2 => exact rfl); (case c3 => exact rfl); (case c4 => exact rfl); k_whole; intro g' L' h' FG' F' N' B' X' T'; (try dsimp only); (try k_lift B'); (try k_fold))
  k_steps
  refine held_out ?_
  refine kst_len (us := its) (by assumption) (List.Mem.head _) hlen (by omega) ?_
  k_steps
  refine held_out ?_
  refine ksw_while (σ := Int × Tok × Int × Tok) (fun _ => (l, listOf its.toArray n0) :: (need ++ news))
    (fun c => [(Str.ofString "lo", .int c.1 c.2.1), (Str.ofString "hi", .int c.2.2.1 c.2.2.2)]) (fun _ => True) [Str.ofString "mid"]
    (fun c => 0 ≤ c.1 ∧ c.1 ≤ r ∧ (r : Int) ≤ c.2.2.1 ∧ c.2.2.1 ≤ ks.length)
    (fun c => (c.2.2.1 - c.1).toNat) (0, _, (ks.length : Int), _) (by assumption) (by assumption) trivial (by kst_all) ?_ ?_
  · refine ⟨?_, ?_, ?_, ?_⟩ <;> dsimp only <;> omega
  · rintro ⟨lo, tl, hi, th⟩ u h tk ⟨⟩ ⟨p1, p2, p3, p4⟩ F9 N9
    dsimp only at *
    k_steps
    · refine held_out ?_
      have hmid : Int.fdiv (lo + hi) 2 = (lo + hi) / 2 := Int.fdiv_eq_ediv_of_nonneg _ (by omega)
      obtain ⟨k, hk9⟩ : ∃ k, ks[(Int.fdiv (lo + hi) 2).toNat]? = some k := ⟨_, List.getElem?_eq_getElem (by omega)⟩
      have q1 := hr1 _ _ hk9
      have q2 := hr2 _ _ hk9
      obtain ⟨v, hv9⟩ : ∃ v, its[(Int.fdiv (lo + hi) 2).toNat]? = some v := ⟨_, List.getElem?_eq_getElem (by omega)⟩
      have hneed : ∀ q ∈ need, q ∈ (l, listOf its.toArray n0) :: (need ++ news) := fun q hq => .tail _ (List.mem_append_left _ hq)
      refine callWith_F (hfn _ _ _ _ (by k_in) (by assumption) hneed) ?_
      k_steps
      refine held_out ?_
      refine item_litK (vs := its) (v := v) ⟨_, (News.get (by assumption) (List.Mem.head _)), rfl, n0, rfl⟩ (by omega) (by omega) hv9 ?_ (by with_unfolding_all rfl)
      k_steps
      · exact hfn _ _ _ _ (by k_in) (by assumption) hneed
      · refine hkey _ v k hv9 hk9 _ _ _ _ _ _ _ _ _ _ _ _ _ _ _ _ _ _ _ _ _ _ _ (by assumption) (by assumption) (by assumption) (by assumption) (by assumption) rfl hneed (by ktr_room) (by ktr_units) ?_
        intro t9 h9 tk9 F8 N8
        dsimp only
        k_steps
        all_goals (refine held_out ?_; refine ksw_end (_, _, _, _) (by assumption) (by assumption) (fun _ h => h) trivial (by kst_all) (by (intro z h2 h3; (simp only [List.forall_mem_cons, List.not_mem_nil, false_implies, implies_true, and_true, ne_eq] at h2); (simp only [List.contains_cons, List.contains_nil, Bool.or_false, Bool.or_eq_false_iff, beq_eq_false_iff_ne, ne_eq] at h3); simp [kstB, h2, h3])) ?_ ?_ <;> dsimp only <;> omega)
    · have e9 : lo = (r : Int) := by omega
      subst e9
      exact hret _ _ _ (by assumption) (news_out (news_tl (by assumption)))

theorem br_gen (w : World) (l f : Addr) (its : List Value) (n0 : Nat) (ks : List Int) (x : Int) (tx : Tok) (more : List Value) (tlo : Tok) (hm : (more = [] ∧ tlo = 215) ∨ more = [.int 0 tlo, .none]) (need : List (Addr × Obj)) (r : Nat) (hlen : its.length = ks.length) (hbig : ks.length < 1000000) (hfn : FnOk w need f) (hkey : KeyOk w need f its ks)
    (hr : r ≤ ks.length) (hr1 : ∀ (i : Nat) k, ks[i]? = some k → i < r → k ≤ x) (hr2 : ∀ (i : Nat) k, ks[i]? = some k → r ≤ i → x < k) :
    Gives w 2 ((l, listOf its.toArray n0) :: need) (.ref 39) ([.ref l, .int x tx] ++ more) [(Str.ofString "key", .ref f)] (fun t => .int r t) := by
  unfold Gives KK PR
  k_fill
  intro p loose mean mg mb dp un gd cn cs a ccd cl outer A₀ base h₀ L m news s Q E B F X N T hk hn hd hu hret
  have N := news_in N hn
  simp only [List.cons_append, List.nil_append] at N
  refine wpAny_call ?_
  k_dflt (refine' code_def (binds := [(Str.ofString "a", .ref l), (Str.ofString "x", .int x tx), (Str.ofString "lo", .int 0 tlo), (Str.ofString "hi", .none), (Str.ofString "key", .ref f)]) ?k1 ?k2 ?k3 ?k4 ?k5 ?kA ?kF ?kK ?k6 ?k7 ?k8 ?k9 ?kB ?_ ?c2 ?c3 ?c4 ?c5; (case kA => exact rfl); (case kF => exact rfl); (case kK => assumption); (case k1 => k_asm); (case k2 => k_asm); (case k3 => k_asm); (case k4 => k_asm); (case k5 => k_asm); (case k6 => k_is); (case k7 => k_is); (case k8 => ktr_room); (case k9 => (refine' kp_binds ?kx ?ke; (case kx => k_in); (case ke => (intro S; rcases hm with ⟨rfl, rfl⟩ | rfl <;> with_unfolding_all rfl)))); (case c5 => decide); (case kB => exact locs rfl); (case c2 => exact rfl); (case c3 => exact rfl); (case c4 => exact rfl); k_whole; intro g' L' h' FG' F' N' B' X' T'; (try dsimp only); (try k_lift B'); (try k_fold))
  k_steps
  refine held_out ?_
  refine kst_len (us := its) (by assumption) (List.Mem.head _) hlen (by omega) ?_
  k_steps
  refine held_out ?_
  refine ksw_while (σ := Int × Tok × Int × Tok) (fun _ => (l, listOf its.toArray n0) :: (need ++ news))
    (fun c => [(Str.ofString "lo", .int c.1 c.2.1), (Str.ofString "hi", .int c.2.2.1 c.2.2.2)]) (fun _ => True) [Str.ofString "mid"]
    (fun c => 0 ≤ c.1 ∧ c.1 ≤ r ∧ (r : Int) ≤ c.2.2.1 ∧ c.2.2.1 ≤ ks.length)
    (fun c => (c.2.2.1 - c.1).toNat) (0, _, (ks.length : Int), _) (by assumption) (by assumption) trivial (by kst_all) ?_ ?_
  · refine ⟨?_, ?_, ?_, ?_⟩ <;> dsimp only <;> omega
  · rintro ⟨lo, tl, hi, th⟩ u h tk ⟨⟩ ⟨p1, p2, p3, p4⟩ F9 N9
    dsimp only at *
    k_steps
    · refine held_out ?_
      have hmid : Int.fdiv (lo + hi) 2 = (lo + hi) / 2 := Int.fdiv_eq_ediv_of_nonneg _ (by omega)
      obtain ⟨k, hk9⟩ : ∃ k, ks[(Int.fdiv (lo + hi) 2).toNat]? = some k := ⟨_, List.getElem?_eq_getElem (by omega)⟩
      have q1 := hr1 _ _ hk9
      have q2 := hr2 _ _ hk9
      obtain ⟨v, hv9⟩ : ∃ v, its[(Int.fdiv (lo + hi) 2).toNat]? = some v := ⟨_, List.getElem?_eq_getElem (by omega)⟩
      have hneed : ∀ q ∈ need, q ∈ (l, listOf its.toArray n0) :: (need ++ news) := fun q hq => .tail _ (List.mem_append_left _ hq)
      refine callWith_F (hfn _ _ _ _ (by k_in) (by assumption) hneed) ?_
      k_steps
      refine held_out ?_
      refine item_litK (vs := its) (v := v) ⟨_, (News.get (by assumption) (List.Mem.head _)), rfl, n0, rfl⟩ (by omega) (by omega) hv9 ?_ (by with_unfolding_all rfl)
      k_steps
      · exact hfn _ _ _ _ (by k_in) (by assumption) hneed
      · refine hkey _ v k hv9 hk9 _ _ _ _ _ _ _ _ _ _ _ _ _ _ _ _ _ _ _ _ _ _ _ (by assumption) (by assumption) (by assumption) (by assumption) (by assumption) rfl hneed (by ktr_room) (by ktr_units) ?_
        intro t9 h9 tk9 F8 N8
        dsimp only
        k_steps
        all_goals (refine held_out ?_; refine ksw_end (_, _, _, _) (by assumption) (by assumption) (fun _ h => h) trivial (by kst_all) (by (intro z h2 h3; (simp only [List.forall_mem_cons, List.not_mem_nil, false_implies, implies_true, and_true, ne_eq] at h2); (simp only [List.contains_cons, List.contains_nil, Bool.or_false, Bool.or_eq_false_iff, beq_eq_false_iff_ne, ne_eq] at h3); simp [kstB, h2, h3])) ?_ ?_ <;> dsimp only <;> omega)
    · have e9 : lo = (r : Int) := by omega
      subst e9
      exact hret _ _ _ (by assumption) (news_out (news_tl (by assumption)))

theorem bl_key (w : World) (l f : Addr) (its : List Value) (n0 : Nat) (ks : List Int) (x : Int) (tx t0 : Tok) (need : List (Addr × Obj)) (r : Nat) (hlen : its.length = ks.length) (hbig : ks.length < 1000000) (hfn : FnOk w need f) (hkey : KeyOk w need f its ks)
    (hr : r ≤ ks.length) (hr1 : ∀ (i : Nat) k, ks[i]? = some k → i < r → k < x) (hr2 : ∀ (i : Nat) k, ks[i]? = some k → r ≤ i → x ≤ k) :
    Gives w 2 ((l, listOf its.toArray n0) :: need) (.ref 57) [.ref l, .int x tx] [(Str.ofString "key", .ref f)] (fun t => .int r t) :=
  bl_gen w l f its n0 ks x tx [] 242 (.inl ⟨rfl, rfl⟩) need r hlen hbig hfn hkey hr hr1 hr2

theorem bl_key4 (w : World) (l f : Addr) (its : List Value) (n0 : Nat) (ks : List Int) (x : Int) (tx t0 : Tok) (need : List (Addr × Obj)) (r : Nat) (hlen : its.length = ks.length) (hbig : ks.length < 1000000) (hfn : FnOk w need f) (hkey : KeyOk w need f its ks)
    (hr : r ≤ ks.length) (hr1 : ∀ (i : Nat) k, ks[i]? = some k → i < r → k < x) (hr2 : ∀ (i : Nat) k, ks[i]? = some k → r ≤ i → x ≤ k) :
    Gives w 2 ((l, listOf its.toArray n0) :: need) (.ref 57) [.ref l, .int x tx, .int 0 t0, .none] [(Str.ofString "key", .ref f)] (fun t => .int r t) :=
  bl_gen w l f its n0 ks x tx [.int 0 t0, .none] t0 (.inr rfl) need r hlen hbig hfn hkey hr hr1 hr2

theorem br_key (w : World) (l f : Addr) (its : List Value) (n0 : Nat) (ks : List Int) (x : Int) (tx t0 : Tok) (need : List (Addr × Obj)) (r : Nat) (hlen : its.length = ks.length) (hbig : ks.length < 1000000) (hfn : FnOk w need f) (hkey : KeyOk w need f its ks)
    (hr : r ≤ ks.length) (hr1 : ∀ (i : Nat) k, ks[i]? = some k → i < r → k ≤ x) (hr2 : ∀ (i : Nat) k, ks[i]? = some k → r ≤ i → x < k) :
    Gives w 2 ((l, listOf its.toArray n0) :: need) (.ref 39) [.ref l, .int x tx] [(Str.ofString "key", .ref f)] (fun t => .int r t) :=
  br_gen w l f its n0 ks x tx [] 215 (.inl ⟨rfl, rfl⟩) need r hlen hbig hfn hkey hr hr1 hr2

theorem br_key4 (w : World) (l f : Addr) (its : List Value) (n0 : Nat) (ks : List Int) (x : Int) (tx t0 : Tok) (need : List (Addr × Obj)) (r : Nat) (hlen : its.length = ks.length) (hbig : ks.length < 1000000) (hfn : FnOk w need f) (hkey : KeyOk w need f its ks)
    (hr : r ≤ ks.length) (hr1 : ∀ (i : Nat) k, ks[i]? = some k → i < r → k ≤ x) (hr2 : ∀ (i : Nat) k, ks[i]? = some k → r ≤ i → x < k) :
    Gives w 2 ((l, listOf its.toArray n0) :: need) (.ref 39) [.ref l, .int x tx, .int 0 t0, .none] [(Str.ofString "key", .ref f)] (fun t => .int r t) :=
  br_gen w l f its n0 ks x tx [.int 0 t0, .none] t0 (.inr rfl) need r hlen hbig hfn hkey hr hr1 hr2

theorem bl_plain (w : World) (l : Addr) (its : List Value) (n0 : Nat) (ks : List Int) (x : Int) (tx t0 : Tok) (r : Nat) (hi : IntsAre its ks) (hbig : ks.length < 1000000)
    (hr : r ≤ ks.length) (hr1 : ∀ (i : Nat) k, ks[i]? = some k → i < r → k < x) (hr2 : ∀ (i : Nat) k, ks[i]? = some k → r ≤ i → x ≤ k) :
    Gives w 2 [(l, listOf its.toArray n0)] (.ref 57) [.ref l, .int x tx] [] (fun t => .int r t) := by
  unfold Gives KK PR
  k_fill
  intro p loose mean mg mb dp un gd cn cs a ccd cl outer A₀ base h₀ L m news s Q E B F X N T hk hn hd hu hret
  have N := news_in N hn
  simp only [List.cons_append, List.nil_append] at N
  have hlen : its.length = ks.length := hi.length
  refine wpAny_call ?_
  k_dflt (refine' code_def ?k1 ?k2 ?k3 ?k4 ?k5 ?kA ?kF ?kK ?k6 ?k7 ?k8 ?k9 ?kB ?_ ?c2 ?c3 ?c4 ?c5; (case kA => exact rfl); (case kF => exact rfl); (case kK => assumption); (case k1 => k_asm); (case k2 => k_asm); (case k3 => k_asm); (case k4 => k_asm); (case k5 => k_asm); (case k6 => k_is); (case k7 => k_is); (case k8 => ktr_room); (case k9 => (refine' kp_binds ?kx ?ke; (case kx => k_in); (case ke => exact fun _ => rfl))); (case c5 => decide); (case kB => exact locs rfl); (case c2 => exact rfl); (case c3 => exact rfl); (case c4 => exact rfl); k_whole; intro g' L' h' FG' F' N' B' X' T'; (try dsimp only); (try k_lift B'); (try k_fold))
  k_steps
  refine held_out ?_
  refine kst_len (us := its) (by assumption) (List.Mem.head _) hlen (by omega) ?_
  k_steps
  refine held_out ?_
  refine ksw_while (σ := Int × Tok × Int × Tok) (fun _ => (l, listOf its.toArray n0) :: news)
    (fun c => [(Str.ofString "lo", .int c.1 c.2.1), (Str.ofString "hi", .int c.2.2.1 c.2.2.2)]) (fun _ => True) [Str.ofString "mid"]
    (fun c => 0 ≤ c.1 ∧ c.1 ≤ r ∧ (r : Int) ≤ c.2.2.1 ∧ c.2.2.1 ≤ ks.length)
    (fun c => (c.2.2.1 - c.1).toNat) (0, _, (ks.length : Int), _) (by assumption) (by assumption) trivial (by kst_all) ?_ ?_
  · refine ⟨?_, ?_, ?_, ?_⟩ <;> dsimp only <;> omega
  · rintro ⟨lo, tl, hi, th⟩ u h tk ⟨⟩ ⟨p1, p2, p3, p4⟩ F9 N9
    dsimp only at *
    k_steps
    · refine held_out ?_
      have hmid : Int.fdiv (lo + hi) 2 = (lo + hi) / 2 := Int.fdiv_eq_ediv_of_nonneg _ (by omega)
      obtain ⟨k, hk9⟩ : ∃ k, ks[(Int.fdiv (lo + hi) 2).toNat]? = some k := ⟨_, List.getElem?_eq_getElem (by omega)⟩
      have q1 := hr1 _ _ hk9
      have q2 := hr2 _ _ hk9
      obtain ⟨tv, hv9⟩ := IntsAre.get (by assumption) _ _ hk9
      refine item_litK (vs := its) (v := .int k tv) ⟨_, (News.get (by assumption) (List.Mem.head _)), rfl, n0, rfl⟩ (by omega) (by omega) hv9 ?_ (by with_unfolding_all rfl)
      k_steps
      all_goals (refine held_out ?_; refine ksw_end (_, _, _, _) (by assumption) (by assumption) (fun _ h => h) trivial (by kst_all) (by (intro z h2 h3; (simp only [List.forall_mem_cons, List.not_mem_nil, false_implies, implies_true, and_true, ne_eq] at h2); (simp only [List.contains_cons, List.contains_nil, Bool.or_false, Bool.or_eq_false_iff, beq_eq_false_iff_ne, ne_eq] at h3); simp [kstB, h2, h3])) ?_ ?_ <;> dsimp only <;> omega)
    · have e9 : lo = (r : Int) := by omega
      subst e9
      exact hret _ _ _ (by assumption) (news_tl (by assumption))
end Mine
end
section
open PySem PySem.W PyProof.Rows PySem.Calls PySem.Spec
namespace Mine
local macro_rules | `(tactic| walk_at "call ref") => `(tactic| refine held ?_)
local macro_rules | `(tactic| walk_at "FnAt") => `(tactic| refine held ?_)
local macro_rules | `(tactic| walk_at "call builtin:list.insert") => `(tactic| refine held ?_)
theorem ins_r (w : World) (l f it : Addr) (its : List Value) (n0 : Nat) (ks : List Int) (kx : Int) (need : List (Addr × Obj)) (r : Nat) (hlen : its.length = ks.length) (hbig : ks.length < 1000000) (hfn : FnOk w need f) (hkey : KeyOk w need f its ks)
    (hkx : Gives w 1 need (.ref f) [.ref it] [] (fun t => .int kx t)) (hr : r ≤ ks.length) (hr1 : ∀ (i : Nat) k, ks[i]? = some k → i < r → k ≤ kx) (hr2 : ∀ (i : Nat) k, ks[i]? = some k → r ≤ i → kx < k) :
    Turns w 3 need l (listOf its.toArray n0) (listOf (its.take r ++ .ref it :: its.drop r).toArray (n0 + 1)) (.ref 30) [.ref l, .ref it] [(Str.ofString "key", .ref f)] .none := by
  unfold Turns KK PR
  k_fill
  intro p loose mean mg mb dp un gd cn cs a ccd cl outer A₀ base h₀ L m news s Q E B F X N hoff T hk hn hd hu hret
  have hneed : ∀ q ∈ need, q ∈ (l, listOf its.toArray n0) :: news := fun q hq => .tail _ (hn q hq)
  have hneed2 : ∀ q ∈ (l, listOf its.toArray n0) :: need, q ∈ (l, listOf its.toArray n0) :: news := fun q hq => by
    cases hq with
    | head => exact .head _
    | tail _ h => exact .tail _ (hn q h)
  refine wpAny_call ?_
  k_dflt (refine' code_def ?k1 ?k2 ?k3 ?k4 ?k5 ?kA ?kF ?kK ?k6 ?k7 ?k8 ?k9 ?kB ?_ ?c2 ?c3 ?c4 ?c5; (case kA => exact rfl); (case kF => exact rfl); (case kK => assumption); (case k1 => k_asm); (case k2 => k_asm); (case k3 => k_asm); (case k4 => k_asm); (case k5 => k_asm); (case k6 => k_is); (case k7 => k_is); (case k8 => ktr_room); (case k9 => (refine' kp_binds ?kx ?ke; (case kx => k_in); (case ke => exact fun _ => rfl))); (case c5 => decide); (case kB => exact locs rfl); (case c2 => exact rfl); (case c3 => exact rfl); (case c4 => exact rfl); k_whole; intro g' L' h' FG' F' N' B' X' T'; (try dsimp only); (try k_lift B'); (try k_fold))
  k_steps
  refine callWith_F (hfn _ _ _ _ (by k_in) (by assumption) hneed) ?_
  k_steps
  · exact hfn _ _ _ _ (by k_in) (by assumption) hneed
  · refine held_out ?_
    refine hkx _ _ _ _ _ _ _ _ _ _ _ _ _ _ _ _ _ _ _ _ _ _ _ (by assumption) (by assumption) (by assumption) (by assumption) (by assumption) rfl hneed (by ktr_room) (by ktr_units) ?_
    intro t9 h9 tk9 F8 N8
    dsimp only
    k_steps
    refine held_out ?_
    refine br_key4 w l f its n0 ks kx _ _ need r hlen hbig hfn hkey hr hr1 hr2 _ _ _ _ _ _ _ _ _ _ _ _ _ _ _ _ _ _ _ _ _ _ _ (by assumption) (by assumption) (by assumption) (by assumption) (by assumption) rfl hneed2 (by ktr_room) (by ktr_units) ?_
    intro t7 h7 tk7 F7 N7
    dsimp only
    k_steps
    refine held_out ?_
    refine kl_insert (its := its.toArray) (n := n0) (by assumption) (by assumption) ?_ (l := its.take r ++ .ref it :: its.drop r) ?_ (Upd.head hoff) ?_ ?_
    · show Builtin.List.listFitsIndex (r : Int) = true
      unfold Builtin.List.listFitsIndex
      simp
      omega
    · unfold kl_ins
      have e1 : ¬ ((r : Int) < 0) := by omega
      simp only [List.toList_toArray, if_neg e1, Int.toNat_natCast]
      rw [Nat.min_eq_left (by omega)]
    · show its.length ≤ sizeLine
      rw [sizeLine_eq]; omega
    · intro h6 F6 N6
      k_steps
      exact hret _ _ (by assumption) (by assumption)
theorem ins_l (w : World) (l f it : Addr) (its : List Value) (n0 : Nat) (ks : List Int) (kx : Int) (need : List (Addr × Obj)) (r : Nat) (hlen : its.length = ks.length) (hbig : ks.length < 1000000) (hfn : FnOk w need f) (hkey : KeyOk w need f its ks)
    (hkx : Gives w 1 need (.ref f) [.ref it] [] (fun t => .int kx t)) (hr : r ≤ ks.length) (hr1 : ∀ (i : Nat) k, ks[i]? = some k → i < r → k < kx) (hr2 : ∀ (i : Nat) k, ks[i]? = some k → r ≤ i → kx ≤ k) :
    Turns w 3 need l (listOf its.toArray n0) (listOf (its.take r ++ .ref it :: its.drop r).toArray (n0 + 1)) (.ref 48) [.ref l, .ref it] [(Str.ofString "key", .ref f)] .none := by
  unfold Turns KK PR
  k_fill
  intro p loose mean mg mb dp un gd cn cs a ccd cl outer A₀ base h₀ L m news s Q E B F X N hoff T hk hn hd hu hret
  have hneed : ∀ q ∈ need, q ∈ (l, listOf its.toArray n0) :: news := fun q hq => .tail _ (hn q hq)
  have hneed2 : ∀ q ∈ (l, listOf its.toArray n0) :: need, q ∈ (l, listOf its.toArray n0) :: news := fun q hq => by
    cases hq with
    | head => exact .head _
    | tail _ h => exact .tail _ (hn q h)
  refine wpAny_call ?_
  k_dflt (refine' code_def ?k1 ?k2 ?k3 ?k4 ?k5 ?kA ?kF ?kK ?k6 ?k7 ?k8 ?k9 ?kB ?_ ?c2 ?c3 ?c4 ?c5; (case kA => exact rfl); (case kF => exact rfl); (case kK => assumption); (case k1 => k_asm); (case k2 => k_asm); (case k3 => k_asm); (case k4 => k_asm); (case k5 => k_asm); (case k6 => k_is); (case k7 => k_is); (case k8 => ktr_room); (case k9 => (refine' kp_binds ?kx ?ke; (case kx => k_in); (case ke => exact fun _ => rfl))); (case c5 => decide); (case kB => exact locs rfl); (case c2 => exact rfl); (case c3 => exact rfl); (case c4 => exact rfl); k_whole; intro g' L' h' FG' F' N' B' X' T'; (try dsimp only); (try k_lift B'); (try k_fold))
  k_steps
  refine callWith_F (hfn _ _ _ _ (by k_in) (by assumption) hneed) ?_
  k_steps
  · exact hfn _ _ _ _ (by k_in) (by assumption) hneed
  · refine held_out ?_
    refine hkx _ _ _ _ _ _ _ _ _ _ _ _ _ _ _ _ _ _ _ _ _ _ _ (by assumption) (by assumption) (by assumption) (by assumption) (by assumption) rfl hneed (by ktr_room) (by ktr_units) ?_
    intro t9 h9 tk9 F8 N8
    dsimp only
    k_steps
    refine held_out ?_
    refine bl_key4 w l f its n0 ks kx _ _ need r hlen hbig hfn hkey hr hr1 hr2 _ _ _ _ _ _ _ _ _ _ _ _ _ _ _ _ _ _ _ _ _ _ _ (by assumption) (by assumption) (by assumption) (by assumption) (by assumption) rfl hneed2 (by ktr_room) (by ktr_units) ?_
    intro t7 h7 tk7 F7 N7
    dsimp only
    k_steps
    refine held_out ?_
    refine kl_insert (its := its.toArray) (n := n0) (by assumption) (by assumption) ?_ (l := its.take r ++ .ref it :: its.drop r) ?_ (Upd.head hoff) ?_ ?_
    · show Builtin.List.listFitsIndex (r : Int) = true
      unfold Builtin.List.listFitsIndex
      simp
      omega
    · unfold kl_ins
      have e1 : ¬ ((r : Int) < 0) := by omega
      simp only [List.toList_toArray, if_neg e1, Int.toNat_natCast]
      rw [Nat.min_eq_left (by omega)]
    · show its.length ≤ sizeLine
      rw [sizeLine_eq]; omega
    · intro h6 F6 N6
      k_steps
      exact hret _ _ (by assumption) (by assumption)
end Mine
end
section
open PySem PySem.W PyProof.Rows PySem.Calls PySem.Spec PySem.Flt
namespace Mine
def fmax2 (x y : UInt64) : UInt64 := if (Float64.cmp x y == some .lt) = true then y else x
def fmin2 (x y : UInt64) : UInt64 := if (Float64.cmp y x == some .lt) = true then y else x
def fmax3 (x y z : UInt64) : UInt64 := fmax2 (fmax2 x y) z
def fmin3 (x y z : UInt64) : UInt64 := fmin2 (fmin2 x y) z

theorem max_three_num {prog : Program} {w : World} {A : Around} {E : Value → Shared → Prop} {s : Shared} {Q : Value → Shared → Prop} {a b c : Value} (hh : A.handled = none) (ha : NumV a) (hb : NumV b) (hc : NumV c)
    (h : ∀ h' tk, (∀ d o, s.heap.get? d = some o → h'.get? d = some o) → Q (if ltV (if ltV a b then b else a) c then c else (if ltV a b then b else a)) { s with heap := h', toks := tk }) :
    wpAny (model prog w) A (call (.builtin "max") [a, b, c]) Q E s := by
  have hT : (s.heap.push { cls := .type "tuple", data := .seq #[a, b, c] }).IsTuple s.heap.objs.size #[a, b, c] := ⟨_, Heap.get?_push_size _ rfl, rfl, 0, rfl⟩
  refine call_max_three (wpAny_pyIter_tuple hT ?_)
  have hsz : (s.heap.push { cls := .type "tuple", data := .seq #[a, b, c] }).objs.size = s.heap.objs.size + 1 := Heap.size_push ..
  refine ⟨_, [_, s.heap.objs.size], [_], _, _, _, _, rfl, Walks.tuple (A := A.in1) hh _ s.heap.objs.size (by rw [hsz]; exact Nat.ne_of_lt (Nat.lt_succ_self _)) #[a, b, c],
    ⟨⟨_, Heap.get?_push_size _ rfl, rfl, rfl⟩, hT.push _⟩, fun d hd => ?_, by simp, cmpOf_gt #[a, b, c] (by simp [ha, hb, hc]), fun v h' tk hP hk => ?_⟩
  · show d < ((s.heap.push _).push _).objs.size
    rw [Heap.size_push, hsz]
    rcases List.mem_cons.mp hd with rfl | hd
    · rw [hsz]; exact Nat.lt_succ_self _
    · rcases List.mem_cons.mp hd with rfl | hd
      · exact Nat.lt_succ_of_lt (Nat.lt_succ_self _)
      · cases hd
  · have hold : ∀ d o, s.heap.get? d = some o → h'.get? d = some o := fun d o e => by
      refine hk d o (fun hm => ?_) (Heap.get?_push_of_some _ (Heap.get?_push_of_some _ e))
      rcases List.mem_cons.mp hm with e1 | hm
      · have := Heap.lt_size e; rw [e1, hsz] at this; exact Nat.lt_irrefl _ (Nat.lt_of_succ_lt this)
      · cases hm
    have := h h' tk hold
    have hv : v = if ltV (if ltV a b then b else a) c then c else (if ltV a b then b else a) := by
      cases h1 : ltV a b
      · cases h2 : ltV a c <;> simp [argBest, h1, h2] at hP <;> subst hP <;> simp [h2]
      · cases h2 : ltV b c <;> simp [argBest, h1, h2] at hP <;> subst hP <;> simp [h2]
    rw [hv]; exact this
theorem min_three_num {prog : Program} {w : World} {A : Around} {E : Value → Shared → Prop} {s : Shared} {Q : Value → Shared → Prop} {a b c : Value} (hh : A.handled = none) (ha : NumV a) (hb : NumV b) (hc : NumV c)
    (h : ∀ h' tk, (∀ d o, s.heap.get? d = some o → h'.get? d = some o) → Q (if ltV c (if ltV b a then b else a) then c else (if ltV b a then b else a)) { s with heap := h', toks := tk }) :
    wpAny (model prog w) A (call (.builtin "min") [a, b, c]) Q E s := by
  have hT : (s.heap.push { cls := .type "tuple", data := .seq #[a, b, c] }).IsTuple s.heap.objs.size #[a, b, c] := ⟨_, Heap.get?_push_size _ rfl, rfl, 0, rfl⟩
  refine call_min_three (wpAny_pyIter_tuple hT ?_)
  have hsz : (s.heap.push { cls := .type "tuple", data := .seq #[a, b, c] }).objs.size = s.heap.objs.size + 1 := Heap.size_push ..
  refine ⟨_, [_, s.heap.objs.size], [_], _, _, _, _, rfl, Walks.tuple (A := A.in1) hh _ s.heap.objs.size (by rw [hsz]; exact Nat.ne_of_lt (Nat.lt_succ_self _)) #[a, b, c],
    ⟨⟨_, Heap.get?_push_size _ rfl, rfl, rfl⟩, hT.push _⟩, fun d hd => ?_, by simp, cmpOf_lt #[a, b, c] (by simp [ha, hb, hc]), fun v h' tk hP hk => ?_⟩
  · show d < ((s.heap.push _).push _).objs.size
    rw [Heap.size_push, hsz]
    rcases List.mem_cons.mp hd with rfl | hd
    · rw [hsz]; exact Nat.lt_succ_self _
    · rcases List.mem_cons.mp hd with rfl | hd
      · exact Nat.lt_succ_of_lt (Nat.lt_succ_self _)
      · cases hd
  · have hold : ∀ d o, s.heap.get? d = some o → h'.get? d = some o := fun d o e => by
      refine hk d o (fun hm => ?_) (Heap.get?_push_of_some _ (Heap.get?_push_of_some _ e))
      rcases List.mem_cons.mp hm with e1 | hm
      · have := Heap.lt_size e; rw [e1, hsz] at this; exact Nat.lt_irrefl _ (Nat.lt_of_succ_lt this)
      · cases hm
    have := h h' tk hold
    have hv : v = if ltV c (if ltV b a then b else a) then c else (if ltV b a then b else a) := by
      cases h1 : ltV b a
      · cases h2 : ltV c a <;> simp [argBest, h1, h2] at hP <;> subst hP <;> simp [h2]
      · cases h2 : ltV c b <;> simp [argBest, h1, h2] at hP <;> subst hP <;> simp [h2]
    rw [hv]; exact this
section
variable {prog : Program} {w : World} {A : Around} {E : Value → Shared → Prop} {s : Shared} {Q : Value → Shared → Prop} {x y z : UInt64} {t u v : Tok} {h₀ : Heap} {L : Addr} {m : Str → Option Value} {news : List (Addr × Obj)}
theorem max3_f (hh : A.handled = none) (F : Fr h₀ L s.heap m) (N : News h₀ L s.heap news)
    (h : ∀ h' tk v, Fr h₀ L h' m → News h₀ L h' news → Q (.float (fmax3 x y z) v) { s with heap := h', toks := tk }) :
    wpAny (model prog w) A (call (.builtin "max") [.float x t, .float y u, .float z v]) Q E s :=
  max_three_num hh (.float x t) (.float y u) (.float z v) fun h' tk kp => by
    have F' := F.grownK kp
    have N' := N.grown kp
    have e : ∀ (a b : UInt64) (p q : Tok), ltV (.float a p) (.float b q) = (Float64.cmp a b == some .lt) := fun _ _ _ _ => rfl
    unfold fmax3 fmax2 at h
    by_cases h1 : (Float64.cmp x y == some .lt) = true
    · by_cases h2 : (Float64.cmp y z == some .lt) = true
      · simp only [e, h1, h2, if_true] at h ⊢; exact h h' tk v F' N'
      · simp only [e, h1, h2, if_true, if_false, Bool.false_eq_true] at h ⊢; exact h h' tk u F' N'
    · by_cases h2 : (Float64.cmp x z == some .lt) = true
      · simp only [e, h1, h2, if_true, if_false, Bool.false_eq_true] at h ⊢; exact h h' tk v F' N'
      · simp only [e, h1, h2, if_true, if_false, Bool.false_eq_true] at h ⊢; exact h h' tk t F' N'
theorem min3_f (hh : A.handled = none) (F : Fr h₀ L s.heap m) (N : News h₀ L s.heap news)
    (h : ∀ h' tk v, Fr h₀ L h' m → News h₀ L h' news → Q (.float (fmin3 x y z) v) { s with heap := h', toks := tk }) :
    wpAny (model prog w) A (call (.builtin "min") [.float x t, .float y u, .float z v]) Q E s :=
  min_three_num hh (.float x t) (.float y u) (.float z v) fun h' tk kp => by
    have F' := F.grownK kp
    have N' := N.grown kp
    have e : ∀ (a b : UInt64) (p q : Tok), ltV (.float a p) (.float b q) = (Float64.cmp a b == some .lt) := fun _ _ _ _ => rfl
    unfold fmin3 fmin2 at h
    by_cases h1 : (Float64.cmp y x == some .lt) = true
    · by_cases h2 : (Float64.cmp z y == some .lt) = true
      · simp only [e, h1, h2, if_true] at h ⊢; exact h h' tk v F' N'
      · simp only [e, h1, h2, if_true, if_false, Bool.false_eq_true] at h ⊢; exact h h' tk u F' N'
    · by_cases h2 : (Float64.cmp z x == some .lt) = true
      · simp only [e, h1, h2, if_true, if_false, Bool.false_eq_true] at h ⊢; exact h h' tk v F' N'
      · simp only [e, h1, h2, if_true, if_false, Bool.false_eq_true] at h ⊢; exact h h' tk t F' N'
end
end Mine
end
section
open PySem.Flt PySem PySem.W PyProof.Rows PySem.Calls PySem.Spec
namespace Mine
/-- the hue as the two defs reckon it -/
def hueB (r g b : UInt64) : UInt64 :=
  (Float64.divmod (Float64.div
    (if (Float64.cmp r (fmax3 r g b) == some .eq) = true then
      Float64.sub (Float64.div (Float64.sub (fmax3 r g b) b) (Float64.sub (fmax3 r g b) (fmin3 r g b))) (Float64.div (Float64.sub (fmax3 r g b) g) (Float64.sub (fmax3 r g b) (fmin3 r g b)))
    else if (Float64.cmp g (fmax3 r g b) == some .eq) = true then
      Float64.sub (Float64.add 4611686018427387904 (Float64.div (Float64.sub (fmax3 r g b) r) (Float64.sub (fmax3 r g b) (fmin3 r g b)))) (Float64.div (Float64.sub (fmax3 r g b) b) (Float64.sub (fmax3 r g b) (fmin3 r g b)))
    else
      Float64.sub (Float64.add 4616189618054758400 (Float64.div (Float64.sub (fmax3 r g b) g) (Float64.sub (fmax3 r g b) (fmin3 r g b)))) (Float64.div (Float64.sub (fmax3 r g b) r) (Float64.sub (fmax3 r g b) (fmin3 r g b))))
    4618441417868443648) 4607182418800017408).snd
structure OkRGB (r g b : UInt64) : Prop where
  ne : (Float64.cmp (fmin3 r g b) (fmax3 r g b) == some .eq) = false
  z1 : Float64.isZero (fmax3 r g b) = false
  z2 : Float64.isZero (Float64.sub (fmax3 r g b) (fmin3 r g b)) = false
  z3 : Float64.isZero (Float64.add (fmax3 r g b) (fmin3 r g b)) = false
  z4 : Float64.isZero (Float64.sub (Float64.sub 4611686018427387904 (fmax3 r g b)) (fmin3 r g b)) = false
theorem tf {b : Bool} (h : b = false) (k : b = true) : False := by rw [h] at k; cases k
theorem hue1 {r g b : UInt64} (h : (Float64.cmp r (fmax3 r g b) == some .eq) = true) : (Float64.divmod (Float64.div
      (Float64.sub (Float64.div (Float64.sub (fmax3 r g b) b) (Float64.sub (fmax3 r g b) (fmin3 r g b))) (Float64.div (Float64.sub (fmax3 r g b) g) (Float64.sub (fmax3 r g b) (fmin3 r g b))))
    4618441417868443648) 4607182418800017408).snd = hueB r g b := by unfold hueB; rw [if_pos h]
theorem hue2 {r g b : UInt64} (h : (Float64.cmp r (fmax3 r g b) == some .eq) = false) (k : (Float64.cmp g (fmax3 r g b) == some .eq) = true) : (Float64.divmod (Float64.div
      (Float64.sub (Float64.add 4611686018427387904 (Float64.div (Float64.sub (fmax3 r g b) r) (Float64.sub (fmax3 r g b) (fmin3 r g b)))) (Float64.div (Float64.sub (fmax3 r g b) b) (Float64.sub (fmax3 r g b) (fmin3 r g b))))
    4618441417868443648) 4607182418800017408).snd = hueB r g b := by unfold hueB; rw [if_neg (fun q => tf h q), if_pos k]
theorem hue3 {r g b : UInt64} (h : (Float64.cmp r (fmax3 r g b) == some .eq) = false) (k : (Float64.cmp g (fmax3 r g b) == some .eq) = false) : (Float64.divmod (Float64.div
      (Float64.sub (Float64.add 4616189618054758400 (Float64.div (Float64.sub (fmax3 r g b) g) (Float64.sub (fmax3 r g b) (fmin3 r g b)))) (Float64.div (Float64.sub (fmax3 r g b) r) (Float64.sub (fmax3 r g b) (fmin3 r g b))))
    4618441417868443648) 4607182418800017408).snd = hueB r g b := by unfold hueB; rw [if_neg (fun q => tf h q), if_neg (fun q => tf k q)]
local macro_rules | `(tactic| walk_at "call builtin:max") => `(tactic| ((with_reducible show wpAny _ _ (call _ [Value.float _ _, Value.float _ _, Value.float _ _]) _ _ _); (rename News _ _ _ _ => N'); (rename Fr _ _ _ _ => F'); refine max3_f rfl F' N' ?_; clear F' N'; intro h' tk' v' F' N'; dsimp only))
local macro_rules | `(tactic| walk_at "call builtin:min") => `(tactic| ((with_reducible show wpAny _ _ (call _ [Value.float _ _, Value.float _ _, Value.float _ _]) _ _ _); (rename News _ _ _ _ => N'); (rename Fr _ _ _ _ => F'); refine min3_f rfl F' N' ?_; clear F' N'; intro h' tk' v' F' N'; dsimp only))
theorem hsv1 (w : World) (r g b : UInt64) (t1 t2 t3 : Tok) (ok : OkRGB r g b) :
    MakesT w 1 [] (.ref 71) [.float r t1, .float g t2, .float b t3] [] (fun vs => ∃ x t p q, vs = [.float x t, p, q] ∧ x = hueB r g b) := by
  unfold MakesT KK PR
  k_fill
  intro p loose mean mg mb dp un gd cn cs a ccd cl outer A₀ base h₀ L m news s Q E B F X N T hk hn hd hu hret
  refine wpAny_call ?_
  k_dflt cell_enter
  k_steps
  all_goals first
    | (rename OkRGB _ _ _ => ok; exact (tf ok.z1 (by assumption)).elim)
    | (rename OkRGB _ _ _ => ok; exact (tf ok.z2 (by assumption)).elim)
    | (rename OkRGB _ _ _ => ok; exact (tf ok.z3 (by assumption)).elim)
    | (rename OkRGB _ _ _ => ok; exact (tf ok.z4 (by assumption)).elim)
    | (rename OkRGB _ _ _ => ok; exact (tf ok.ne (by assumption)).elim)
    | exact hret _ _ _ _ ⟨_, _, _, _, rfl, hue1 (by assumption)⟩ (by assumption) (by assumption) (by assumption)
    | exact hret _ _ _ _ ⟨_, _, _, _, rfl, hue2 (by assumption) (by assumption)⟩ (by assumption) (by assumption) (by assumption)
    | exact hret _ _ _ _ ⟨_, _, _, _, rfl, hue3 (by assumption) (by assumption)⟩ (by assumption) (by assumption) (by assumption)
theorem hls1 (w : World) (r g b : UInt64) (t1 t2 t3 : Tok) (ok : OkRGB r g b) :
    MakesT w 1 [] (.ref 64) [.float r t1, .float g t2, .float b t3] [] (fun vs => ∃ x t p q, vs = [.float x t, p, q] ∧ x = hueB r g b) := by
  unfold MakesT KK PR
  k_fill
  intro p loose mean mg mb dp un gd cn cs a ccd cl outer A₀ base h₀ L m news s Q E B F X N T hk hn hd hu hret
  refine wpAny_call ?_
  k_dflt cell_enter
  k_steps
  all_goals first
    | (rename OkRGB _ _ _ => ok; exact (tf ok.z1 (by assumption)).elim)
    | (rename OkRGB _ _ _ => ok; exact (tf ok.z2 (by assumption)).elim)
    | (rename OkRGB _ _ _ => ok; exact (tf ok.z3 (by assumption)).elim)
    | (rename OkRGB _ _ _ => ok; exact (tf ok.z4 (by assumption)).elim)
    | (rename OkRGB _ _ _ => ok; exact (tf ok.ne (by assumption)).elim)
    | exact hret _ _ _ _ ⟨_, _, _, _, rfl, hue1 (by assumption)⟩ (by assumption) (by assumption) (by assumption)
    | exact hret _ _ _ _ ⟨_, _, _, _, rfl, hue2 (by assumption) (by assumption)⟩ (by assumption) (by assumption) (by assumption)
    | exact hret _ _ _ _ ⟨_, _, _, _, rfl, hue3 (by assumption) (by assumption)⟩ (by assumption) (by assumption) (by assumption)
/-- what _law_turn makes of a hue -/
def inB (h : UInt64) : UInt64 := Float64.add (Float64.mul h (Float64.ofInt 5040)) 4650604332004147200
def turnB (h : UInt64) : Int := (Flt.toInt Float64.truncOf (inB h)).fmod 5040
theorem turn1 (w : World) (r : UInt64) (t1 : Tok) (h1 : Float64.isNaN (inB r) = false) (h2 : Float64.isInf (inB r) = false) :
    Gives w 1 [] (.ref 85) [.float r t1] [] (fun t => .int (turnB r) t) := by
  unfold Gives KK PR
  k_fill
  intro p loose mean mg mb dp un gd cn cs a ccd cl outer A₀ base h₀ L m news s Q E B F X N T hk hn hd hu hret
  refine wpAny_call ?_
  k_dflt cell_enter
  k_steps
  · exact (tf h1 (by assumption)).elim
  · exact (tf h2 (by assumption)).elim
  · exact hret _ _ _ (by assumption) (by assumption)
end Mine
end
section
open PySem.Flt PySem PySem.W PyProof.Rows PySem.Calls PySem.Spec
namespace Mine
local macro_rules | `(tactic| walk_at $s:str) => do
  unless ["exec While Compare cons nil", "KswEnd"].contains s.getString do Lean.Macro.throwUnsupported
  `(tactic| refine held ?_)
theorem gcd_step {c d : Int} (hc : 0 ≤ c) (hd : 0 < d) : Int.gcd d (c.fmod d) = Int.gcd c d := by
  rw [Int.fmod_eq_emod_of_nonneg _ (by omega)]
  obtain ⟨c', rfl⟩ := Int.eq_ofNat_of_zero_le hc
  obtain ⟨d', rfl⟩ := Int.eq_ofNat_of_zero_le (Int.le_of_lt hd)
  rw [← Int.natCast_emod]
  show Nat.gcd d' (c' % d') = Nat.gcd c' d'
  rw [Nat.gcd_comm d', ← Nat.gcd_rec d' c', Nat.gcd_comm]
theorem fmod_less {c d : Int} (hd : 0 < d) : 0 ≤ c.fmod d ∧ c.fmod d < d := by
  rw [Int.fmod_eq_emod_of_nonneg _ (by omega)]
  exact ⟨Int.emod_nonneg _ (by omega), Int.emod_lt_of_pos _ hd⟩
theorem gcd1 (w : World) (x y : Int) (t1 t2 : Tok) :
    Gives w 1 [] (.ref 104) [.int x t1, .int y t2] [] (fun t => .int (Int.gcd x y) t) := by
  unfold Gives KK PR
  k_fill
  intro p loose mean mg mb dp un gd cn cs a ccd cl outer A₀ base h₀ L m news s Q E B F X N T hk hn hd hu hret
  refine wpAny_call ?_
  k_dflt cell_enter
  k_steps
  refine held_out ?_
  refine ksw_while (σ := Int × Tok × Int × Tok) (fun _ => news)
    (fun c => [(Str.ofString "a", .int c.1 c.2.1), (Str.ofString "b", .int c.2.2.1 c.2.2.2)]) (fun _ => True) []
    (fun c => 0 ≤ c.1 ∧ 0 ≤ c.2.2.1 ∧ Int.gcd c.1 c.2.2.1 = Int.gcd x y)
    (fun c => c.2.2.1.toNat) (_, _, _, _) (by assumption) (by assumption) trivial (by kst_all) ?_ ?_
  · refine ⟨?_, ?_, ?_⟩ <;> dsimp only
    · omega
    · omega
    · have e : ∀ z : Int, (if z < 0 then -z else z).natAbs = z.natAbs := fun z => by split <;> omega
      show Nat.gcd _ _ = Nat.gcd _ _
      rw [e, e]
  · rintro ⟨c, tc, d, td⟩ u h tk ⟨⟩ ⟨p1, p2, p3⟩ F9 N9
    dsimp only at *
    k_steps
    · refine held_out ?_
      have q := fmod_less (c := c) (d := d) (by assumption)
      refine ksw_end (_, _, _, _) (by assumption) (by assumption) (fun _ h => .tail _ h) trivial (by kst_all) (by (intro z h2 h3; (simp only [List.forall_mem_cons, List.not_mem_nil, false_implies, implies_true, and_true, ne_eq] at h2); simp [kstB, h2])) ⟨?_, ?_, ?_⟩ ?_ <;> dsimp only
      · omega
      · omega
      · rw [gcd_step p1 (by assumption)]; exact p3
      · omega
    · have e : d = 0 := by omega
      subst e
      have e2 : c = (Int.gcd x y : Int) := by
        rw [← p3]
        show c = ((Nat.gcd c.natAbs 0 : Nat) : Int)
        rw [Nat.gcd_zero_right]; omega
      rw [e2]
      exact hret _ _ _ (by assumption) (by assumption)
end Mine
end
section
open PySem PySem.W PyProof.Rows PySem.Calls PySem.Spec
namespace Mine
section
variable {M : Model} {A : Around} {R : GenEnd} {Y : Protocol} {n : Nat} {s₀ : Shared} {c : Code} {fs : List Frame} {s : Shared} {env : Env}
  {K : Flow → Sem Fin} {H : Value → Sem Fin} {gd : Bool → Bool} {lv : List Value → List Value}
/-- a tree that does not raise -/
theorem never {α : Type} {t : Sem α} {Q : α → Shared → Prop} {E : Value → Shared → Prop} (h : wpAny M A t Q (fun _ _ => False) s) : wpAny M A t Q E s :=
  wpAny_mono h (fun _ _ x => x) (fun _ _ x => x.elim)

theorem seg_For {target iter : Expr} {body orelse : List Stmt} {pos : Pos}
    (h : wpAny M (A.over c fs) (eval iter env) (fun x s₁ => wpAny M (A.over c fs) (pyIter x) (fun it s₂ =>
      ∀ p, Seg M A R Y n s₀ (.forLoop target it body orelse env) (M.den (.forLoop target it body orelse env))
        (.ret (fun r => ((match r with | .ok f => (.pure f : Sem Flow) | .error e => .raise e).onRaise fun (x : Value) => do
          if (← field x 1) == Value.none then unsupported "frame.own-activation:exception-without-traceback"
          setFlight x env.frame).wrap K H gd lv) none (gd false) (lv []) c p [] :: fs) s₂) (fun _ _ => False) s₁) (fun _ _ => False) s)
    (hs : ∀ x, foldedSetIterable iter env x = pure x := by intro _; rfl) :
    Seg M A R Y n s₀ c ((exec (.For target iter body orelse pos) env).wrap K H gd lv) fs s := by
  rw [exec_For]
  refine seg_bind_wrap (wpAny_standAt ?_)
  refine seg_bind_wrap (never (wpAny_mono h (fun x s₁ h₁ => ?_) fun _ _ x => x))
  refine seg_bind_wrap (wpAny_of_eq (hs x) ?_)
  refine seg_bind_wrap (wpAny_standAt ?_)
  refine seg_bind_wrap (wpAny_holding (never (wpAny_mono h₁ (fun it s₂ h₂ => ?_) fun _ _ x => x)))
  exact seg_call h₂
theorem seg_If {test : Expr} {body orelse : List Stmt} {pos : Pos}
    (h : wpAny M (A.over c fs) (isTrue test env (eval test env)) (fun b s₁ => if b = true then Seg M A R Y n s₀ c ((execs body env).wrap K H gd lv) fs s₁ else Seg M A R Y n s₀ c ((execs orelse env).wrap K H gd lv) fs s₁) (fun _ _ => False) s) :
    Seg M A R Y n s₀ c ((exec (.If test body orelse pos) env).wrap K H gd lv) fs s := by
  show Seg M A R Y n s₀ c ((standAt pos >>= fun _ => isTrue test env (eval test env) >>= fun b => if b = true then execs body env else execs orelse env).wrap K H gd lv) fs s
  refine seg_bind_wrap (wpAny_standAt ?_)
  refine seg_bind_wrap (never (wpAny_mono h (fun b s₁ h₁ => ?_) fun _ _ x => x))
  cases b with
  | true => exact h₁
  | false => exact h₁
/-- a plain statement -/
theorem seg_plain {st : Stmt} (h : wpAny M (A.over c fs) (exec st env) (fun f s' => Seg M A R Y n s₀ c (K f) fs s') (fun _ _ => False) s) :
    Seg M A R Y n s₀ c ((exec st env).wrap K H gd lv) fs s := seg_wrap (never h)
end
section
variable {prog : Program} {w : World} {A : Around} {R : GenEnd} {Y : Protocol} {n : Nat} {s₀ : Shared} {fs : List Frame} {s : Shared} {env : Env}
theorem seg_forLoop {target : Expr} {it : Value} {body orelse : List Stmt}
    (h : wpAny (model prog w) (A.over (.forLoop target it body orelse env) fs) (pyNext it) (fun r s₁ => ∃ v, r = some v ∧
        wpAny (model prog w) (A.over (.forLoop target it body orelse env) fs) (assign target env v) (fun _ s₂ =>
          Seg (model prog w) A R Y n s₀ (.forLoop target it body orelse env) ((execs body env).wrap (fun f => match f with
            | .next | .cont => .pure (.again (.forLoop target it body orelse env))
            | .brk => .pure (.done .next)
            | .ret v => .pure (.done (.ret v))) (fun e => (do noteFrame e env; theTreesLotGoes e : Sem Unit).wrap (fun _ => .raise e) .raise id id) id id) fs s₂) (fun _ _ => False) s₁) (fun _ _ => False) s)
    (ht : ∀ v, letOwnedTupleGo target it v = pure () := by intro _; rfl) :
    Seg (model prog w) A R Y n s₀ (.forLoop target it body orelse env) ((model prog w).den (.forLoop target it body orelse env)) fs s := by
  show Seg _ A R Y n s₀ _ ((forTurn target it body orelse env).onRaise (fun x => do noteFrame x env; theTreesLotGoes x)) fs s
  unfold forTurn
  rw [Sem.onRaise_eq_wrap]
  refine seg_bind_wrap (wpAny_standAt ?_)
  refine seg_bind_wrap (wpAny_onRaise (never (wpAny_mono h (fun r s₁ h₁ => ?_) fun _ _ x => x)))
  obtain ⟨v, rfl, h₁⟩ := h₁
  refine seg_bind_wrap (wpAny_of_eq (ht v) ?_)
  refine seg_bind_wrap (never (wpAny_mono h₁ (fun _ s₂ h₂ => ?_) fun _ _ x => x))
  show Seg _ A R Y n s₀ _ (Sem.wrap _ _ _ _ (execs body env >>= _)) fs s₂
  rw [Sem.bind_eq_wrap', Sem.wrap_wrap]
  rw [Sem.wrap_congr (execs body env) _ _ (K' := fun f => match f with
            | .next | .cont => .pure (.again (.forLoop target it body orelse env))
            | .brk => .pure (.done .next)
            | .ret v => .pure (.done (.ret v))) (H' := (fun e => (do noteFrame e env; theTreesLotGoes e : Sem Unit).wrap (fun _ => .raise e) .raise id id))
        (fun f => by cases f <;> rfl)
        (fun e => by first | exact Sem.bind_eq_wrap _ _ | (show (do noteFrame e env; theTreesLotGoes e : Sem Unit).bind (fun _ => .raise e) = _; rw [Sem.bind_eq_wrap]))]
  exact h₂
end
end Mine
end
section
open PySem PySem.W PyProof.Rows PySem.Calls PySem.Spec
namespace Mine
abbrev sI : Str := Str.ofString "interval"
abbrev sLast : Str := Str.ofString "last_interval"
/-- the generator's names -/
abbrev fm (lv iv : Value) (m : Str → Option Value) : Str → Option Value := fun y => if y = sI then some iv else if y = sLast then some lv else m y
/-- what the generator yields -/
def yld (ws : List Int) (j : Nat) : Int := ws.getD (min j (ws.length - 1)) 0
def proto (h₀ : Heap) (L I l : Addr) (ws : List Int) (z : Int) (N : Nat) : Protocol := fun m s₀ v s kap =>
  ((∃ t, v = .int (yld ws (N - 1 - m)) t) ∧ (z = 0 ∨ N - 1 - m < ws.length)) ∧ GenSince L [I] s₀ s ∧ (∃ oL oI, s.heap.get? L = some oL ∧ s.heap.get? I = some oI) ∧
    (1 ≤ m → ∀ s'' : Shared, (∀ b ∈ [L, I, l], ∀ o, s.heap.get? b = some o → s''.heap.get? b = some o) → h₀.StaysIn s''.heap → kap (.send .none) s'')
def gend (L I : Addr) (ws : List Int) (z : Int) (N : Nat) : Nat → Shared → Shared → Prop := fun n s₀ s₁ => z = 127 ∧ N - n = ws.length ∧ GenSince L [I] s₀ s₁
def lvOk (ws : List Int) (i : Nat) (lv : Value) : Prop := (i = 0 ∧ lv = .none) ∨ (0 < i ∧ ∃ t, lv = .int (ws.getD (i - 1) 0) t)

/-- what is asked of the pieces of the generator's text -/
structure GenText (prog : Program) (w : World) (h₀ : Heap) (L : Addr) (env : Env) (t1 t2 t3 wt ye ye2 : Expr) (S3 : Stmt) : Prop where
  loc : env.locals = L
  k1 : env.kindOf sI = some .local
  k2 : env.kindOf sLast = some .local
  kp : (env.scope.kind == .class || (env.scope.kind == .module && env.locals != env.globals)) = false
  co : env.scope.isCoroutine = false
  ia : interactive env = false
  h1 : ∀ (A' : Around) (s : Shared) (v : Int) (t : Tok) (lv : Value) (m : Str → Option Value), Fr h₀ L s.heap (fm lv (.int v t) m) →
    wpAny (model prog w) A' (isTrue t1 env (eval t1 env)) (fun b s' => b = decide (v = 127) ∧ ∃ tk, s' = { s with toks := tk }) (fun _ _ => False) s
  h2 : ∀ (A' : Around) (s : Shared) (v : Int) (t : Tok) (lv : Value) (m : Str → Option Value), Fr h₀ L s.heap (fm lv (.int v t) m) →
    wpAny (model prog w) A' (isTrue t2 env (eval t2 env)) (fun b s' => b = decide (v = 0) ∧ ∃ tk, s' = { s with toks := tk }) (fun _ _ => False) s
  h3 : ∀ (A' : Around) (s : Shared) (u : Int) (t : Tok) (iv : Value) (m : Str → Option Value), Fr h₀ L s.heap (fm (.int u t) iv m) →
    wpAny (model prog w) A' (isTrue t3 env (eval t3 env)) (fun b s' => b = false ∧ ∃ tk, s' = { s with toks := tk }) (fun _ _ => False) s
  hw : ∀ (A' : Around) (s : Shared), wpAny (model prog w) A' (isTrue wt env (eval wt env)) (fun b s' => b = true ∧ ∃ tk, s' = { s with toks := tk }) (fun _ _ => False) s
  hy : ∀ (A' : Around) (s : Shared) (lv iv : Value) (m : Str → Option Value), Fr h₀ L s.heap (fm lv iv m) →
    wpAny (model prog w) A' (eval ye env) (fun v s' => v = lv ∧ ∃ tk, s' = { s with toks := tk }) (fun _ _ => False) s
  hy2 : ∀ (A' : Around) (s : Shared) (lv iv : Value) (m : Str → Option Value), Fr h₀ L s.heap (fm lv iv m) →
    wpAny (model prog w) A' (eval ye2 env) (fun v s' => v = iv ∧ ∃ tk, s' = { s with toks := tk }) (fun _ _ => False) s
  hs : ∀ (A' : Around) (s : Shared) (lv iv : Value) (m : Str → Option Value), Fr h₀ L s.heap (fm lv iv m) →
    wpAny (model prog w) A' (exec S3 env) (fun f s' => f = .next ∧ ∃ h' tk, s' = { s with heap := h', toks := tk } ∧ Fr h₀ L h' (fun y => if y = sLast then some iv else fm lv iv m y) ∧ Heap.SameBut L s.heap h') (fun _ _ => False) s

section
variable {prog : Program} {w : World} {A : Around} {h₀ : Heap} {L I l : Addr} {env : Env} {t1 t2 t3 wt ye ye2 : Expr} {S3 : Stmt}
  {ws : List Int} {z : Int} {items : List Value} {N : Nat} {fs : List Frame}

theorem since_to {s₀ s s' : Shared} (h : GenSince L [I] s₀ s) (h1 : s'.heap = s.heap := by rfl) (h2 : s'.gens = s.gens := by rfl) (h3 : s'.drawn = s.drawn := by rfl) (h4 : s'.os = s.os := by rfl) : GenSince L [I] s₀ s' := by
  obtain ⟨h', tk', rfl, k⟩ := h
  obtain ⟨a, b, c, d, e⟩ := s'
  dsimp only at h1 h2 h3 h4
  subst h1 h2 h3 h4
  exact ⟨_, d, rfl, k⟩

theorem gen_while {yp yq : Pos} {k2 : Result → Sem Fin} {hd2 : Option Value} {l2 : List Value} {cF : Code} {p2 : Pos} {kp2 : List Value} (G : GenText prog w h₀ L env t1 t2 t3 wt ye ye2 S3) (hz0 : z = 0) (hL : h₀.objs.size ≤ L)
    (hfs : splitAtGen fs = none) (hfg : fs.any Frame.guarded = false) {R : GenEnd} :
    ∀ (b : Nat) (s₀ s : Shared) (t : Tok) (iv : Value) (m : Str → Option Value), 1 ≤ b → b ≤ N → ws.length ≤ N - b → Fr h₀ L s.heap (fm (.int (ws.getD (ws.length - 1) 0) t) iv m) → (∃ oI, s.heap.get? I = some oI) → GenSince L [I] s₀ s →
      Seg (model prog w) A R (proto h₀ L I l ws z N) b s₀ (.whileLoop wt [.Expr (.Yield (some ye) yp) yq] [] env) ((model prog w).den (.whileLoop wt [.Expr (.Yield (some ye) yp) yq] [] env)) (.ret k2 hd2 false l2 cF p2 kp2 :: fs) s := by
  have hfs' : splitAtGen (.ret k2 hd2 false l2 cF p2 kp2 :: fs) = none := by rw [splitAtGen_ret, hfs]; rfl
  have hfg' : (Frame.ret k2 hd2 false l2 cF p2 kp2 :: fs).any Frame.guarded = false := by rw [List.any_cons, hfg]; rfl
  intro b
  induction b with
  | zero => intro _ _ _ _ _ h; omega
  | succ b ih =>
    intro s₀ s t iv m _ hbN hge F hI hsince
    refine seg_whileLoop (never (wpAny_mono (G.hw _ s) (fun bb s' hb => ?_) fun _ _ x => x))
    obtain ⟨rfl, tk, rfl⟩ := hb
    rw [if_pos rfl]
    refine seg_execs_cons (seg_Expr_Yield hfs' rfl hfg' (never (wpAny_mono (G.hy _ { s with toks := tk } _ _ _ F) (fun v s' hv => ?_) fun _ _ x => x)) G.co G.ia)
    obtain ⟨rfl, tk', rfl⟩ := hv
    intro kap hkap
    obtain ⟨oL, _, _, hoL, _⟩ := F.ns
    obtain ⟨oI, hoI⟩ := hI
    refine ⟨⟨⟨t, ?_⟩, .inl hz0⟩, since_to hsince, ⟨oL, oI, hoL, hoI⟩, fun hb1 s'' hk hst => hkap .none s'' ?_⟩
    · unfold yld
      rw [Nat.min_eq_right (by omega)]
    · show Seg _ A R _ b s'' _ ((execs [] env).wrap _ _ _ _) _ s''
      refine seg_execs_nil (seg_again rfl (ih s'' s'' t iv m hb1 (by omega) (by omega) ⟨?_, hst, hL⟩ ⟨oI, hk I (by simp) oI hoI⟩ (GenSince.refl _ _ _)))
      exact F.ns.at' fun o e => hk L (by simp) o e

theorem fm_of {m : Str → Option Value} {lv iv : Value} (h : m sLast = some lv) : (fun y => if y = sI then some iv else m y) = fm lv iv m := by
  funext y
  unfold fm
  by_cases h1 : y = sI
  · simp [h1]
  · by_cases h2 : y = sLast
    · subst h2; simp [h]
    · simp [h1, h2]

theorem gen_loop {px pi1 pi2 pi3 pr pw yp yq yp2 yq2 : Pos} {rb : List Stmt} (G : GenText prog w h₀ L env t1 t2 t3 wt ye ye2 S3) (hne : ws ≠ []) (hLI : L ≠ I) (hlL : l ≠ L) (hlI : l ≠ I) (hL : h₀.objs.size ≤ L) (hI₀ : h₀.get? I = none)
    (hws : ∀ x ∈ ws, x ≠ 0 ∧ x ≠ 127) (hz : z = 0 ∨ z = 127) (rest : List Int) (hi : IntsAre items (ws ++ z :: rest)) {R : GenEnd} (hfs : splitAtGen fs = none) (hfg : fs.any Frame.guarded = false)
    (hend : ∀ (b : Nat) (s₀ s : Shared), gend L I ws z N b s₀ s →
      Seg (model prog w) A R (proto h₀ L I l ws z N) b s₀ (.forLoop (.Name sI px) (.ref I) [.If t1 [.Return none pr] [] pi1, .If t2 [.If t3 rb [] pi3, .While wt [.Expr (.Yield (some ye) yp) yq] [] pw] [] pi2, .Expr (.Yield (some ye2) yp2) yq2, S3] [] env) (.pure (.done (.ret .none))) fs s) :
    ∀ (b i : Nat) (s₀ s : Shared) (lv : Value) (m : Str → Option Value), 1 ≤ b → i + b = N → i ≤ ws.length → Fr h₀ L s.heap m → m sLast = some lv → lvOk ws i lv → s.heap.IsListIter I l i → s.heap.IsList l items.toArray → GenSince L [I] s₀ s →
      Seg (model prog w) A R (proto h₀ L I l ws z N) b s₀ (.forLoop (.Name sI px) (.ref I) [.If t1 [.Return none pr] [] pi1, .If t2 [.If t3 rb [] pi3, .While wt [.Expr (.Yield (some ye) yp) yq] [] pw] [] pi2, .Expr (.Yield (some ye2) yp2) yq2, S3] [] env)
        ((model prog w).den (.forLoop (.Name sI px) (.ref I) [.If t1 [.Return none pr] [] pi1, .If t2 [.If t3 rb [] pi3, .While wt [.Expr (.Yield (some ye) yp) yq] [] pw] [] pi2, .Expr (.Yield (some ye2) yp2) yq2, S3] [] env)) fs s := by
  intro b
  induction b with
  | zero => intro _ _ _ _ _ h; omega
  | succ b ih =>
    intro i s₀ s lv m _ hbi hin F hml hlv hit hl hsince
    -- the item
    obtain ⟨v, hv⟩ : ∃ v, (ws ++ z :: rest)[i]? = some v := ⟨_, List.getElem?_eq_getElem (by simp; omega)⟩
    obtain ⟨tv, hx⟩ := hi.get i v hv
    refine seg_forLoop (wpAny_pyNext_list_item hit hl (by simpa using hx) fun h₁ hit₁ hs₁ => ⟨_, rfl, ?_⟩)
    have hI0 : I ≠ L := fun e => hLI e.symm
    have F₁ : Fr h₀ L h₁ m := ⟨F.ns.sameBut hs₁ hLI, fun b o e => (hs₁.2 b (fun q => by rw [q, hI₀] at e; cases e)).trans (F.keep b o e), hL⟩
    have hn₁ : h₁.Ns env.locals m := by rw [G.loc]; exact F₁.ns
    have hl₁ : h₁.IsList l items.toArray := hl.extBut hs₁.extBut hlI
    refine wpAny_assign_Name (wpAny_storeName_local G.k1 hn₁ (fun h₂ hn₂ hs₂ => ?_) G.kp)
    rw [G.loc] at hn₂ hs₂
    rw [fm_of hml] at hn₂
    have F₂ : Fr h₀ L h₂ (fm lv (.int v tv) m) := ⟨hn₂, fun b o e => (hs₂.2 b (fun q => by rw [q] at e; exact Nat.lt_irrefl _ (Nat.lt_of_lt_of_le (Heap.lt_size e) hL))).trans (F₁.keep b o e), hL⟩
    have hit₂ : h₂.IsListIter I l (i + 1) := by
      obtain ⟨o, ho, r⟩ := hit₁
      exact ⟨o, (hs₂.2 I hI0).trans ho, r⟩
    have hl₂ : h₂.IsList l items.toArray := hl₁.extBut hs₂.extBut hlL
    have hsince₂ : GenSince L [I] s₀ { s with heap := h₂, toks := s.toks + 1 } := hsince.step fun b o hbL hbI e => (hs₂.2 b hbL).trans ((hs₁.2 b (by simpa using hbI)).trans e)
    -- the first test
    refine seg_execs_cons (seg_If (wpAny_mono (G.h1 _ _ v tv lv m F₂) (fun bb s' hb => ?_) fun _ _ x => x))
    obtain ⟨rfl, tk, rfl⟩ := hb
    by_cases hlt : i < ws.length
    · -- within
      have hvw : ws[i]? = some v := by rw [List.getElem?_append_left hlt] at hv; exact hv
      have hv2 := hws v (List.mem_of_getElem? hvw)
      rw [if_neg (by simp [hv2.2])]
      refine seg_execs_nil ?_
      refine seg_execs_cons (seg_If (wpAny_mono (G.h2 _ _ v tv lv m F₂) (fun bb s' hb => ?_) fun _ _ x => x))
      obtain ⟨rfl, tk2, rfl⟩ := hb
      rw [if_neg (by simp [hv2.1])]
      refine seg_execs_nil ?_
      refine seg_execs_cons (seg_Expr_Yield hfs rfl hfg (never (wpAny_mono (G.hy2 _ _ lv (.int v tv) m F₂) (fun y s' hy => ?_) fun _ _ x => x)) G.co G.ia)
      obtain ⟨rfl, tk3, rfl⟩ := hy
      intro kap hkap
      obtain ⟨oL, _, _, hoL, _⟩ := F₂.ns
      obtain ⟨oI, hoI, hoI2⟩ := id hit₂
      refine ⟨⟨⟨tv, ?_⟩, .inr (by omega)⟩, since_to hsince₂, ⟨oL, oI, hoL, hoI⟩, fun hb1 s'' hk hst => hkap .none s'' ?_⟩
      · have e : N - 1 - b = i := by omega
        have : v = yld ws (N - 1 - b) := by
          unfold yld
          rw [e, Nat.min_eq_left (by omega), List.getD_eq_getElem?_getD, hvw]; rfl
        rw [← this]
      · have F3 : Fr h₀ L s''.heap (fm lv (.int v tv) m) := ⟨F₂.ns.at' fun o e => hk L (by simp) o e, hst, hL⟩
        have hit3 : s''.heap.IsListIter I l (i + 1) := ⟨oI, hk I (by simp) oI hoI, hoI2⟩
        obtain ⟨ol, hol, hol2⟩ := id hl₂
        have hl3 : s''.heap.IsList l items.toArray := ⟨ol, hk l (by simp) ol hol, hol2⟩
        refine seg_execs_cons (seg_plain (wpAny_mono (G.hs _ s'' lv (.int v tv) m F3) (fun f s4 h4 => ?_) fun _ _ x => x))
        obtain ⟨rfl, h4, tk4, rfl, F4, hs4⟩ := h4
        refine seg_execs_nil (seg_again rfl (ih (i + 1) s'' _ (.int v tv) _ hb1 (by omega) hlt F4 (by simp) (.inr ⟨by omega, tv, ?_⟩) ?_ ?_ ?_))
        · rw [Nat.add_sub_cancel, List.getD_eq_getElem?_getD, hvw]; rfl
        · obtain ⟨o, ho, r⟩ := hit3
          exact ⟨o, (hs4.2 I hI0).trans ho, r⟩
        · exact hl3.extBut hs4.extBut hlL
        · exact (GenSince.refl _ _ _).step fun b o hbL _ e => (hs4.2 b hbL).trans e
    · -- the end
      have hin' : i = ws.length := by omega
      have hvz : v = z := by
        rw [List.getElem?_append_right (by omega), hin', Nat.sub_self] at hv
        exact (Option.some.inj hv).symm
      subst hvz
      rcases hz with h0 | h127
      · subst h0
        rw [if_neg (by decide)]
        refine seg_execs_nil ?_
        refine seg_execs_cons (seg_If (wpAny_mono (G.h2 _ _ 0 tv lv m F₂) (fun bb s' hb => ?_) fun _ _ x => x))
        obtain ⟨rfl, tk2, rfl⟩ := hb
        rw [if_pos (by decide)]
        have hpos : 0 < ws.length := List.length_pos_iff.mpr hne
        rcases hlv with ⟨h9, _⟩ | ⟨_, tl, hlv⟩
        · omega
        subst hlv
        refine seg_execs_cons (seg_If (wpAny_mono (G.h3 _ _ _ tl _ m F₂) (fun bb s' hb => ?_) fun _ _ x => x))
        obtain ⟨rfl, tk3, rfl⟩ := hb
        rw [if_neg (by decide)]
        refine seg_execs_nil ?_
        refine seg_execs_cons (seg_While fun p => ?_)
        obtain ⟨oI, hoI, _⟩ := id hit₂
        rw [hin'] at F₂
        exact gen_while G rfl hL hfs hfg (b + 1) s₀ _ tl _ m (by omega) (by omega) (by omega) F₂ ⟨oI, hoI⟩ (since_to hsince₂)
      · subst h127
        rw [if_pos (by decide)]
        refine seg_execs_cons (seg_plain (wpAny_Return_none ?_))
        exact hend _ _ _ ⟨rfl, by omega, since_to hsince₂⟩
end
end Mine
end
section
open PySem PySem.W PyProof.Rows PySem.Calls PySem.Spec
namespace Mine
abbrev genO (g : Nat) (nm qn : Str) (t1 t2 : Tok) : Obj := { cls := .type "generator", data := .fields #[.int g 0, .str nm t1, .str qn t2] }
section
variable {prog : Program} {w : World} {A : Around} {E : Value → Shared → Prop} {s : Shared} {K : Frag} {h₀ : Heap} {L : Addr} {m : Str → Option Value} {news : List (Addr × Obj)}
/-- a call of a generator def -/
theorem code_gen {R : Result → Shared → Prop} {name qual : Str} {params : Arguments} {body : List Stmt} {scope : Scope} {dV kV doc pm cdv ct oc : Value} {an od : Option Addr} {osl : Array (Option Value)} {f : Addr} {args : Args} {binds : List (Str × Value)}
    (F : Fr h₀ L s.heap m) (N : News h₀ L s.heap news) (X : K.In h₀) (hlim : h₀.NoLimit)
    (ho : K.lookup f = some ⟨oc, od, .func (fnOf name qual params body scope dV kV doc pm an cdv ct), osl⟩) (hcd : codeIn K cdv qual = true) (hroom : A.depth < recursionLimit)
    (hbind : BindsTo s (fnOf name qual params body scope dV kV doc pm an cdv ct) args binds) (hloc : ∀ y ∈ binds, scope.names.lookup y.1 = some .local)
    (h : ∀ h' tk (a Lg : Addr) t1 t2, a = Lg + 1 → h'.objs.size = a + 1 → Fr h₀ L h' m → News h₀ L h' ((a, genO s.gens.size name qual t1 t2) :: news) → Fr h₀ Lg h' (fun y => binds.reverse.lookup y) → (∀ p ∈ news, p.1 < Lg) → L < Lg →
      R (.ok (.ret (.ref a))) { s with heap := h', toks := tk, gens := s.gens.push (.fresh (.func body (envOf qual scope Lg f cdv))) })
    (hco : scope.isCoroutine = false) (hgen : scope.isGenerator = true) (hk : scope.kind = .function) (hcell : ∀ x ∈ scope.names, x.2 ≠ .cell) :
    codeAny (model prog w) A (.call (.ref f) args) R s := by
  have X' := X.keeps F.keep
  refine codeAny_call_generator (fd := fnOf name qual params body scope dV kV doc pm an cdv ct) (body := body) hroom (X' _ _ ho) rfl hco hgen rfl (codeRec_of X' hcd) ?_
  refine hbind _ _ _ _ ?_
  refine wpAny_newFunctionEnv hcell hloc (fun h₁ hns hsb => ?_) hk
  have hk1 : ∀ b o, s.heap.get? b = some o → h₁.get? b = some o := fun b o e => hsb.extBut b o (Nat.ne_of_lt (Heap.lt_size e)) (Heap.get?_push_of_some _ e)
  have hsz : h₁.objs.size = s.heap.objs.size + 1 := by rw [hsb.1, Heap.size_push]
  refine ⟨hlim.keeps fun b o e => hk1 b o (F.keep b o e), ?_⟩
  have hLs : L < s.heap.objs.size := F.ns.lt
  have F1 : Fr h₀ L h₁ m := ⟨F.ns.keeps hk1, fun b o e => hk1 b o (F.keep b o e), F.above⟩
  have N1 : News h₀ L h₁ news := fun p hp => ⟨hk1 _ _ (N p hp).1, (N p hp).2⟩
  have FG : Fr h₀ s.heap.objs.size h₁ (fun y => binds.reverse.lookup y) := ⟨hns, fun b o e => hk1 b o (F.keep b o e), Nat.le_of_lt (Nat.lt_of_le_of_lt F.above hLs)⟩
  have e := h (h₁.push (genO s.gens.size name qual (s.toks + binds.length) (s.toks + binds.length + 1))) (s.toks + binds.length + 1 + 1) h₁.objs.size s.heap.objs.size _ _ hsz (Heap.size_push ..) (F1.push _) (N1.push F1 _) (FG.push _) (fun p hp => Heap.lt_size (N p hp).1) hLs
  exact e

/-- one step of a generator that a def has made -/
theorem pyNext_genF {a : Addr} {g n : Nat} {gs : GenState} {P : Nat → Shared → Shared → Prop} {Y : Protocol} {Q : Option Value → Shared → Prop} (hh : A.handled = none)
    (hl : s.heap.NoLimit) (hroom : A.depth < recursionLimit) (hg : s.heap.IsGen a g) (hgs : s.gens[g]? = some gs)
    (hgo : gs.Goes (model prog w) A.in1 (fun n s₀ r s₁ => r = .ok (.ret .none) ∧ P n s₀ s₁) Y n (.send .none) (s.setGen g .running))
    (hY : ∀ v s₁ gs', gs'.bare = true → Y (n - 1) (s.setGen g .running) v s₁ (fun r' s'' => match n with
        | 0 => False
        | m + 1 => gs'.Goes (model prog w) A.in1 (fun n s₀ r s₁ => r = .ok (.ret .none) ∧ P n s₀ s₁) Y m r' s'') → Q (some v) (s₁.setGen g gs'))
    (hP : ∀ s₁, P n (s.setGen g .running) s₁ → ∀ h', (∀ b o, s₁.heap.get? b = some o → h'.get? b = some o) → Q none { s₁.setGen g .finished with heap := h' }) :
    wpAny (model prog w) A (pyNext (.ref a)) Q E s := by
  unfold pyNext
  refine wpAny_bind (wpAny_attempt (wpAny_callSpecial?_slot (name := Str.ofString "__next__") hg.typeIs slot_gen_next (wpAny_call_entry slot_gen_next hg.typeIs entry_gen_next ?_ (args_gen_next _))))
  show wpAny _ A.in1 (Builtin.Generator.genWake (.ref a) (.send .none)) _ _ s
  unfold Builtin.Generator.genWake
  refine wpAny_bind (wpAny_holding (wpAny_genNumber hg (wpAny_bind (wpAny_genState hgs ?_))))
  cases gs with
  | running => exact hgo.elim
  | finished => exact hgo.elim
  | _ =>
    refine wpAny_bind (wpAny_roomToWake hl hroom ?_)
    show wpAny _ A.in1 (.resume g (.send .none) [] _) _ _ s
    refine wpAny_resumeQ hgs hgo (fun x s₁ hx => ?_) (fun v s₁ gs' hb hv => wpAny_pure ⟨v, rfl, wpAny_pure (hY v s₁ gs' hb hv)⟩)
    obtain ⟨rfl, hp⟩ := hx
    show wpAny _ A.in1 (newExc (.type "StopIteration") [] >>= _) _ _ _
    refine wpAny_bind ?_
    simp only [newExc, newTuple]
    refine wpAny_bind (wpAny_newObj_type ?_ (by size_fits))
    refine wpAny_bind (m := firstArgMember _ _) (wpAny_of_eq (a := Value.none) (by first | rfl | (simp only [firstArgMember]; rfl)) ?_)
    refine wpAny_newObj_type ?_ (by size_fits)
    simp only [raiseNew]
    refine wpAny_bind (wpAny_bind (wpAny_handled ?_))
    first | rw [show A.in1.handled = none from hh] | rw [hh]
    refine wpAny_throw ?_
    refine wpAny_bind (wpAny_isInstance (T := "StopIteration") (b := true) ⟨_, Heap.get?_push_size _ rfl, rfl⟩ isSubtype_stop ?_)
    exact wpAny_pure (hP s₁ hp _ fun b o hb => Heap.get?_push_of_some _ (Heap.get?_push_of_some _ hb))
end
end Mine
end
section
open PySem PySem.W PyProof.Rows PySem.Calls PySem.Spec
namespace Mine
section
variable {prog : Program} {w : World} {A : Around} {s : Shared} {g : Heap} {Lc Lg l ga : Nat} {env : Env} {x : Str} {px : Pos} {body : List Stmt} {R : Result → Shared → Prop}
  {ws : List Int} {z : Int} {items : List Value} {k0 N gi : Nat} {nm qn : Str} {u1 u2 : Tok} {mc0 : Str → Option Value} {led0 : List (Addr × Obj)} {gs0 : GenState}

theorem bare_set {G : Array GenState} {k : Nat} {a b : GenState} (h : AllBare G) (hb : b.bare = true) : AllBare ((G.setIfInBounds k a).setIfInBounds k b) := by
  rw [Array.setIfInBounds_setIfInBounds]
  intro y hy
  rcases Array.mem_or_eq_of_mem_setIfInBounds hy with h1 | h1
  · exact h y h1
  · exact h1 ▸ hb

theorem notin1 {a b : Nat} (h : a < b) : a ∉ [b] := fun q => Nat.ne_of_lt h (List.mem_singleton.mp q)
/-- a loop over a generator -/
theorem consume (J : Nat → (Str → Option Value) → List (Addr × Obj) → Prop)
    (hh : A.handled = none) (hroom : A.depth < recursionLimit) (hlim : g.NoLimit) (hloc : env.locals = Lc) (hx : env.kindOf x = some .local)
    (hkp : (env.scope.kind == .class || (env.scope.kind == .module && env.locals != env.globals)) = false)
    (F0 : Fr g Lc s.heap mc0) (N0 : News g Lc s.heap ((ga, genO gi nm qn u1 u2) :: led0)) (hLg : s.heap.get? Lg ≠ none) (hgLg : g.objs.size ≤ Lg) (hgaI : ga < s.heap.objs.size) (hLcg : Lc < Lg) (hga : Lg < ga)
    (hJl : ∀ j mc led, J j mc led → (∀ p ∈ led, p.1 < Lg) ∧ (l, listOf items.toArray k0) ∈ led ∧ j < N) (hJ0 : J 0 mc0 led0)
    (hB : AllBare s.gens) (hgs : s.gens[gi]? = some gs0)
    (hgo : gs0.Goes (model prog w) A.in1 (fun n s₀ r s₁ => r = .ok (.ret .none) ∧ gend Lg s.heap.objs.size ws z N n s₀ s₁) (proto g Lg s.heap.objs.size l ws z N) N (.send .none) (s.setGen gi .running))
    (turn : ∀ (j : Nat) (t : Tok) (mc : Str → Option Value) (led : List (Addr × Obj)) (h : Heap) (tk : Nat) (G : Array GenState) (oL oI : Obj), J j mc led → (z = 0 ∨ j < ws.length) → AllBare G →
      Fr g Lc h (fun y => if y = x then some (.int (yld ws j) t) else mc y) → News g Lc h ((ga, genO gi nm qn u1 u2) :: (Lg, oL) :: (s.heap.objs.size, oI) :: led) →
      wpAny (model prog w) A (execs body env) (fun f s₃ => match f with
        | .next | .cont => ∃ mc' led' h' tk', s₃ = { s with heap := h', toks := tk', gens := G } ∧ Fr g Lc h' mc' ∧ News g Lc h' ((ga, genO gi nm qn u1 u2) :: (Lg, oL) :: (s.heap.objs.size, oI) :: led') ∧ J (j + 1) mc' led'
        | .brk => R (.ok .next) s₃
        | .ret v => R (.ok (.ret v)) s₃) (fun _ _ => False) { s with heap := h, toks := tk, gens := G })
    (done : ∀ (mc : Str → Option Value) (led : List (Addr × Obj)) (h : Heap) (tk : Nat) (G : Array GenState), z = 127 → J ws.length mc led → AllBare G → Fr g Lc h mc → News g Lc h led → R (.ok .next) { s with heap := h, toks := tk, gens := G }) :
    codeAny (model prog w) A (.forLoop (.Name x px) (.ref ga) body [] env) R s := by
  have hgI : g.objs.size ≤ s.heap.objs.size := by omega
  have gnone : ∀ b, g.objs.size ≤ b → g.get? b = none := fun b hb => by
    cases e : g.get? b with
    | none => rfl
    | some o => exact absurd (Heap.lt_size e) (Nat.not_lt.mpr hb)
  refine codeAny_forLoop (fun b s' => ∃ j mc led h tk G gs, j + b = N ∧ s' = { s with heap := h, toks := tk, gens := G } ∧ J j mc led ∧ Fr g Lc h mc ∧ AllBare G ∧ G[gi]? = some gs ∧ News g Lc h ((ga, genO gi nm qn u1 u2) :: led) ∧
      gs.Goes (model prog w) A.in1 (fun n s₀ r s₁ => r = .ok (.ret .none) ∧ gend Lg s.heap.objs.size ws z N n s₀ s₁) (proto g Lg s.heap.objs.size l ws z N) b (.send .none) (Shared.setGen { s with heap := h, toks := tk, gens := G } gi .running)) ?_ N
    ⟨0, mc0, led0, s.heap, s.toks, s.gens, gs0, by omega, rfl, hJ0, F0, hB, hgs, N0, hgo⟩
  rintro b s' ⟨j, mc, led, h, tk, G, gs, hjb, rfl, hJ, F, hBG, hG, NN, hgo'⟩
  obtain ⟨hled, hlmem, hjN⟩ := hJl _ _ _ hJ
  refine pyNext_genF hh (hlim.keeps F.keep) hroom ⟨_, _, _, News.get NN (List.Mem.head _), rfl, rfl, rfl⟩ hG hgo' ?_ ?_
  · intro v s₁ gs' hbare hY
    obtain ⟨⟨⟨t, rfl⟩, hzj⟩, hsince, ⟨oL, oI, hoL, hoI⟩, hkap⟩ := hY
    obtain ⟨h1, tk1, rfl, hk1⟩ := hsince
    dsimp only [Shared.setGen] at hoL hoI hk1 hkap ⊢
    have keep1 : ∀ a o, a < Lg → h.get? a = some o → h1.get? a = some o := fun a o ha e => hk1 a o (Nat.ne_of_lt ha) (notin1 (Nat.lt_trans ha (Nat.lt_trans hga hgaI))) e
    have F1 : Fr g Lc h1 mc := ⟨F.ns.at' fun o e => keep1 Lc o hLcg e, fun a o e => keep1 a o (Nat.lt_of_lt_of_le (Heap.lt_size e) hgLg) (F.keep a o e), F.above⟩
    have N1 : News g Lc h1 ((ga, genO gi nm qn u1 u2) :: (Lg, oL) :: (s.heap.objs.size, oI) :: led) := by
      intro p hp
      rcases List.mem_cons.mp hp with rfl | hp
      · have z := NN _ (List.Mem.head _)
        exact ⟨hk1 _ _ (by show ga ≠ Lg; omega) (notin1 hgaI) z.1, z.2⟩
      rcases List.mem_cons.mp hp with rfl | hp
      · exact ⟨hoL, by show Lg ≠ Lc; omega, gnone _ hgLg⟩
      rcases List.mem_cons.mp hp with rfl | hp
      · exact ⟨hoI, by show s.heap.objs.size ≠ Lc; omega, gnone _ hgI⟩
      · have z := NN p (.tail _ hp)
        exact ⟨keep1 _ _ (hled p hp) z.1, z.2⟩
    refine wpAny_assign_Name (wpAny_storeName_local hx (m := mc) (by rw [hloc]; exact F1.ns) (fun h2 hn2 hs2 => ?_) hkp)
    have ej : N - 1 - (b - 1) = j := by omega
    rw [hloc] at hn2 hs2
    rw [ej] at hn2 hzj
    refine never (wpAny_mono (turn j t mc led h2 (tk1 + 1) _ oL oI hJ hzj (bare_set hBG hbare) (F1.set hn2 hs2) (N1.set hs2)) (fun f s₃ hf => ?_) fun _ _ e => e)
    cases f with
    | brk => exact hf
    | ret v => exact hf
    | next =>
      obtain ⟨mc', led', h', tk', rfl, F', N', hJ'⟩ := hf
      obtain ⟨hled', hlmem', hjN'⟩ := hJl _ _ _ hJ'
      refine ⟨b - 1, by omega, j + 1, mc', led', h', tk', _, gs', by omega, rfl, hJ', F', bare_set hBG hbare, ?_, fun p hp => ?_, ?_⟩
      · rw [Array.setIfInBounds_setIfInBounds]
        have := (Array.getElem?_eq_some_iff.mp hG).1
        simp [this]
      · rcases List.mem_cons.mp hp with rfl | hp
        · exact N' _ (.head _)
        · exact N' _ (.tail _ (.tail _ (.tail _ hp)))
      · have key := hkap (by omega) (Shared.setGen { s with heap := h', toks := tk', gens := (G.setIfInBounds gi .running).setIfInBounds gi gs' } gi .running) ?_ F'.keep
        · obtain ⟨b', rfl⟩ : ∃ b', b = b' + 1 := ⟨b - 1, by omega⟩
          exact key
        · intro a ha o e
          simp only [List.mem_cons, List.not_mem_nil, or_false] at ha
          rcases ha with rfl | rfl | rfl
          · have := (N' _ (.tail _ (.head _))).1
            rw [hoL] at e; cases e; exact this
          · have := (N' _ (.tail _ (.tail _ (.head _)))).1
            rw [hoI] at e; cases e; exact this
          · have a1 := (N1 _ (.tail _ (.tail _ (.tail _ hlmem)))).1
            have a2 := (N' _ (.tail _ (.tail _ (.tail _ hlmem')))).1
            dsimp only at a1 a2
            rw [a1] at e; cases e; exact a2
    | cont =>
      obtain ⟨mc', led', h', tk', rfl, F', N', hJ'⟩ := hf
      obtain ⟨hled', hlmem', hjN'⟩ := hJl _ _ _ hJ'
      refine ⟨b - 1, by omega, j + 1, mc', led', h', tk', _, gs', by omega, rfl, hJ', F', bare_set hBG hbare, ?_, fun p hp => ?_, ?_⟩
      · rw [Array.setIfInBounds_setIfInBounds]
        have := (Array.getElem?_eq_some_iff.mp hG).1
        simp [this]
      · rcases List.mem_cons.mp hp with rfl | hp
        · exact N' _ (.head _)
        · exact N' _ (.tail _ (.tail _ (.tail _ hp)))
      · have key := hkap (by omega) (Shared.setGen { s with heap := h', toks := tk', gens := (G.setIfInBounds gi .running).setIfInBounds gi gs' } gi .running) ?_ F'.keep
        · obtain ⟨b', rfl⟩ : ∃ b', b = b' + 1 := ⟨b - 1, by omega⟩
          exact key
        · intro a ha o e
          simp only [List.mem_cons, List.not_mem_nil, or_false] at ha
          rcases ha with rfl | rfl | rfl
          · have := (N' _ (.tail _ (.head _))).1
            rw [hoL] at e; cases e; exact this
          · have := (N' _ (.tail _ (.tail _ (.head _)))).1
            rw [hoI] at e; cases e; exact this
          · have a1 := (N1 _ (.tail _ (.tail _ (.tail _ hlmem)))).1
            have a2 := (N' _ (.tail _ (.tail _ (.tail _ hlmem')))).1
            dsimp only at a1 a2
            rw [a1] at e; cases e; exact a2
  · intro s₁ hP h' hk'
    obtain ⟨hz, hn, h1, tk1, rfl, hk1⟩ := hP
    dsimp only [Shared.setGen] at hk1 hk' ⊢
    have keep1 : ∀ a o, a < Lg → h.get? a = some o → h'.get? a = some o := fun a o ha e => hk' a o (hk1 a o (Nat.ne_of_lt ha) (notin1 (Nat.lt_trans ha (Nat.lt_trans hga hgaI))) e)
    refine wpAny_execs_nil ?_
    have ej : j = ws.length := by omega
    subst ej
    refine done mc led h' tk1 _ hz hJ (bare_set hBG rfl) ⟨F.ns.at' fun o e => keep1 Lc o hLcg e, fun a o e => keep1 a o (Nat.lt_of_lt_of_le (Heap.lt_size e) hgLg) (F.keep a o e), F.above⟩ fun p hp => ?_
    have z := NN p (.tail _ hp)
    exact ⟨keep1 _ _ (hled p hp) z.1, z.2⟩
end
end Mine
end
section
open PySem PySem.W PyProof.Rows PySem.Calls PySem.Spec
namespace Mine
def HeldQ (Q : Flow → Shared → Prop) : Flow → Shared → Prop := Q
theorem heldQ {M : Model} {A : Around} {t : Sem Flow} {Q : Flow → Shared → Prop} {E : Value → Shared → Prop} {s : Shared} (h : wpAny M A t (HeldQ Q) E s) : wpAny M A t Q E s := h
theorem intsAre_append {xs ys : List Value} {as bs : List Int} (h : IntsAre xs as) (k : IntsAre ys bs) : IntsAre (xs ++ ys) (as ++ bs) := by
  induction h with
  | nil => exact k
  | cons n t _ ih => exact IntsAre.cons n t ih
/-- the columns at which the rods end -/
def psum (ws : List Int) (j : Nat) : Int := ((List.range j).map (yld ws)).sum
def endsL (ws : List Int) (j : Nat) : List Int := (List.range (j + 1)).map (psum ws)
def EndsOk (w : World) (d : Nat) (l : Addr) (items : List Value) (k0 : Nat) (many : Int) (tm : Tok) (out : List Int) : Prop :=
  ∀ (p : Program) (loose : List Str) (mean : ExcName → Option Value) (mg mb : Str → Option Value) (dp un : Nat) (gd : Option (List Code)) (cn : Str) (cs : Scope) (a : Addr) (ccd : Value) (cl : List (Str × Addr)) (outer : List Env) (A₀ : Around) (base h₀ : Heap) (L : Addr) (m : Str → Option Value) (news : List (Addr × Obj)) (s : Shared) (Q E : Value → Shared → Prop),
    Below A₀ base outer h₀ → Fr h₀ L s.heap m → (KK w).In h₀ → News h₀ L s.heap news → Top p loose mean mg mb h₀ → cs.kind = .function → (l, listOf items.toArray k0) ∈ news → AllBare s.gens →
    dp + d < recursionLimit → un + 12 * d < cLine →
    (∀ (its : List Value) (b : Addr) (n1 : Nat) (h' : Heap) (tk' : Nat) (G : Array GenState), IntsAre its out → AllBare G → Fr h₀ L h' m → News h₀ L h' ((b, listOf its.toArray n1) :: news) → (∀ q ∈ news, q.1 < b) → Q (.ref b) { s with heap := h', toks := tk', gens := G }) →
    wpAny (model PR w) (ktrTop dp un gd cn cs L a ccd cl outer) (call (.ref 92) [.ref l, .int many tm] []) Q E s
local macro_rules | `(tactic| walk_at "call ref") => `(tactic| refine held ?_)
local macro_rules | `(tactic| walk_at "call builtin:len") => `(tactic| refine held ?_)
local macro_rules | `(tactic| walk_at "call builtin:list.append") => `(tactic| refine held ?_)
local macro_rules | `(tactic| walk_at "subscriptTail Name UnaryOp ref int") => `(tactic| refine held ?_)
local macro_rules | `(tactic| walk_at "exec For") => `(tactic| refine held ?_)
local macro_rules | `(tactic| walk_at "exec For Name Call cons nil") => `(tactic| refine held ?_)
theorem psum_succ (ws : List Int) (j : Nat) : psum ws (j + 1) = psum ws j + yld ws j := by
  unfold psum
  rw [List.range_succ, List.map_append, List.sum_append]; simp
theorem endsL_succ (ws : List Int) (j : Nat) : endsL ws (j + 1) = endsL ws j ++ [psum ws j + yld ws j] := by
  unfold endsL
  rw [List.range_succ (n := j + 1), List.map_append]
  simp only [List.map_cons, List.map_nil, psum_succ]
theorem endsL_length (ws : List Int) (j : Nat) : (endsL ws j).length = j + 1 := by unfold endsL; simp
theorem endsL_last (ws : List Int) (j : Nat) : (endsL ws j)[j]? = some (psum ws j) := by
  unfold endsL
  rw [List.getElem?_map, List.getElem?_range (by omega)]; rfl
theorem with_map {h₀ h : Heap} {L : Addr} {m : Str → Option Value} (F : Fr h₀ L h m) {P : Prop} (k : ∀ m0, m0 = m → Fr h₀ L h m0 → P) : P := k m rfl F
abbrev sSize : Str := Str.ofString "size"
theorem ends1 (w : World) (l : Addr) (items : List Value) (k0 : Nat) (many : Nat) (tm : Tok) (ws : List Int) (z : Int) (rest : List Int) (J : Nat) (hne : ws ≠ []) (hws : ∀ x ∈ ws, x ≠ 0 ∧ x ≠ 127) (hi : IntsAre items (ws ++ z :: rest)) (hz : z = 0 ∧ J = many ∨ z = 127 ∧ ws.length ≤ many ∧ J = ws.length) (hm : 0 < many) (hm2 : many < 1000) :
    EndsOk w 3 l items k0 many tm (endsL ws J) := by
  unfold EndsOk KK PR
  k_fill
  intro p loose mean mg mb dp un gd cn cs a ccd cl outer A₀ base h₀ L m news s Q E B F X N T hk hl hbare hd hu hret
  have N : News h₀ L s.heap ((l, listOf items.toArray k0) :: news) := fun q hq => by
    cases hq with
    | head => exact N _ hl
    | tail _ h => exact N _ h
  refine wpAny_call ?_
  k_dflt cell_enter
  k_steps
  refine held_out ?_
  refine wpAny_For ?_
  k_steps
  refine held_out ?_
  refine wpAny_call ?_
  k_dflt (refine' code_gen ?k1 ?k2 ?k3 ?k4 ?k6 ?k7 ?k8 ?k9 ?kB ?_ ?c2 ?c3 ?c4 ?c5; (case k1 => k_asm); (case k2 => k_asm); (case k3 => k_asm); (case k4 => exact Top.nolimit (by k_asm)); (case k6 => k_is); (case k7 => k_is); (case k8 => ktr_room); (case k9 => exact BindsTo.of_eq rfl); (case kB => exact locs rfl); (case c5 => decide); (case c2 => exact rfl); (case c3 => exact rfl); (case c4 => exact rfl))
  intro h2 tk2 ga Lg u1 u2 e1 e2 F2 N2 FG2 hlt2 hLL
  dsimp only
  refine wpAny_pyIter_gen (g := s.gens.size) ⟨_, _, _, News.get N2 (List.Mem.head _), rfl, rfl, rfl⟩ ?_
  first
    | (rename_i g1 Lc hx1 FG1 B1 X1 T1 tkx e hx2 l1 hx3 F1 N1; have hchk := T1.nolimit; clear hchk)
    | (rename_i g1 Lc hx1 FG1 B1 X1 T1 e hx2 l1 hx3 F1 N1; have hchk := T1.nolimit; clear hchk)
  refine with_map F2 ?_
  intro m0 hm0 F3
  have hle : e < Lg := hlt2 _ (List.Mem.head _)
  have hga9 : Lg < ga := by rw [e1]; exact Nat.lt_succ_self _
  have hLgI9 : Lg < h2.objs.size := by rw [e2, e1]; exact Nat.lt_succ_of_lt (Nat.lt_succ_self _)
  have hnlt : ∀ q ∈ news, q.1 < e := kst_ltOf l1.2
  refine consume (ws := ws) (z := z) (N := many + 5) (items := items) (k0 := k0) (l := l) (Lg := Lg) (gi := s.gens.size)
    (fun j mc led => ∃ (its : List Value) (ne : Nat) (u : Str → Option Value), IntsAre its (endsL ws j) ∧ led = (e, listOf its.toArray ne) :: (l, listOf items.toArray k0) :: news ∧ mc = (fun y => if y = sSize then u y else m0 y) ∧ j ≤ many)
    rfl (by ktr_room) T1.nolimit rfl rfl rfl F3 N2 ?_ FG2.above (by show ga < h2.objs.size; rw [e2]; exact Nat.lt_succ_self _) hLL (by rw [e1]; exact Nat.lt_succ_self _) ?_ ?_ ?_ Array.getElem?_push_size ?_ ?_ ?_
  · obtain ⟨o, _, _, ho, _⟩ := FG2.ns
    show h2.get? Lg ≠ none
    rw [ho]; exact fun q => nomatch q
  · rintro j mc led ⟨its, ne, u, _, rfl, _, hj⟩
    refine ⟨fun q hq => ?_, .tail _ (.head _), by omega⟩
    rcases List.mem_cons.mp hq with rfl | hq
    · exact hle
    · exact hlt2 q (.tail _ hq)
  · refine ⟨_, _, m0, ?_, rfl, ?_, Nat.zero_le _⟩
    · exact IntsAre.cons _ _ IntsAre.nil
    · funext y; split <;> rfl
  · intro y hy
    rcases Array.mem_push.mp hy with h | h
    · exact hbare y h
    · rw [h]; rfl
  · refine ⟨rfl, seg_func ?_⟩
    refine seg_execs_cons (seg_plain (wpAny_Assign_Name ?_))
    walk1
    refine wpAny_storeName_local (by rfl) FG2.ns (fun h3 hn3 hs3 => ?_) (by rfl)
    have FG3 : Fr g1 Lg h3 _ := FG2.set hn3 hs3
    dsimp only
    refine seg_execs_cons (seg_For ?_)
    refine ld FG3 rfl ?_
    have hl2 : h2.IsList l items.toArray := ⟨_, News.get N2 (.tail _ (.tail _ (.head _))), rfl, _, rfl⟩
    have hlLg : l ≠ Lg := Nat.ne_of_lt (hlt2 _ (.tail _ (.head _)))
    have hl3 : h3.IsList l items.toArray := hl2.extBut hs3.extBut hlLg
    refine wpAny_pyIter_list hl3 ?_
    intro p9
    have hsz3 : h3.objs.size = h2.objs.size := hs3.1
    dsimp only
    rw [hsz3]
    have hLI : Lg < h2.objs.size := by rw [e2, e1]; exact Nat.lt_succ_of_lt (Nat.lt_succ_self _)
    have hlI : l ≠ h2.objs.size := Nat.ne_of_lt (Nat.lt_trans (hlt2 _ (.tail _ (.head _))) hLI)
    refine gen_loop (items := items) (z := z) ?_ hne (Nat.ne_of_lt hLI) hlLg hlI FG2.above ?_ hws (hz.elim (fun h => .inl h.1) fun h => .inr h.1) rest hi rfl rfl ?_ (many + 5) 0 _ _ .none _ (by omega) (by omega) (Nat.zero_le _) (FG3.push _) rfl (.inl ⟨rfl, rfl⟩) ?_ ?_ ?_
    · clear FG3 hn3 hs3 hl3 hsz3 F3 hm0 m0 N2 F2 FG2 F1 N1 hret hl2
      refine { loc := rfl, k1 := rfl, k2 := rfl, kp := rfl, co := rfl, ia := rfl, h1 := ?_, h2 := ?_, h3 := ?_, hw := ?_, hy := ?_, hy2 := ?_, hs := ?_ }
      · intro A' s v t lv m F9
        have N9 : News g1 Lg s.heap [] := News.nil
        k_steps
      · intro A' s v t lv m F9
        have N9 : News g1 Lg s.heap [] := News.nil
        k_steps
      · intro A' s v t lv m F9
        have N9 : News g1 Lg s.heap [] := News.nil
        k_steps
      · intro A' s
        k_steps
      · intro A' s lv iv m F9
        refine ld F9 rfl ⟨rfl, s.toks, rfl⟩
      · intro A' s lv iv m F9
        refine ld F9 rfl ⟨rfl, s.toks, rfl⟩
      · intro A' s lv iv m F9
        refine wpAny_Assign_Name (ld F9 rfl ?_)
        refine wpAny_storeName_local (by rfl) F9.ns (fun h3 hn3 hs3 => ?_) (by rfl)
        exact ⟨rfl, h3, _, rfl, F9.set hn3 hs3, hs3⟩
    · cases q : g1.get? h2.objs.size with
      | none => rfl
      | some o => exact absurd (Heap.lt_size (F2.keep _ _ q)) (Nat.lt_irrefl _)
    · intro b s₀ s₁ hge
      refine seg_leaf (.ok (.ret .none)) ?_
      exact seg_end (.ok (.ret .none)) ⟨rfl, hge⟩
    · rw [← hsz3]
      exact ⟨_, Heap.get?_push_size _ rfl, rfl, rfl⟩
    · obtain ⟨ol, hol, hol2⟩ := hl3
      exact ⟨ol, Heap.get?_push_of_some _ hol, hol2⟩
    · exact ⟨_, _, rfl, fun b o hb _ e => Heap.get?_push_of_some _ ((hs3.2 b hb).trans e)⟩
  · intro j t mc led h tk G oL oI hJ hzj hBG F9 N9
    obtain ⟨its, ne, u, hits, rfl, rfl, hj⟩ := hJ
    have hlen : its.length = j + 1 := by rw [hits.length, endsL_length]
    clear F2 F3 N2 FG2 F1 N1
    subst hm0
    refine heldQ ?_
    k_steps
    refine held_out ?_
    refine kst_len (us := its) (by assumption) (.tail _ (.tail _ (.tail _ (.head _)))) hlen (by omega) ?_
    k_steps
    · dsimp only
      unfold HeldQ
      dsimp only
      have ej : j = many := by omega
      have eJ : endsL ws j = endsL ws J := by
        rcases hz with ⟨_, q⟩ | ⟨q0, q1, q2⟩
        · rw [q, ej]
        · rcases hzj with q3 | q3
          · rw [q3] at q0; exact absurd q0 (by decide)
          · omega
      rw [eJ] at hits
      k_steps
      exact hret its e ne h _ G hits hBG (by assumption) (fun q hq => by
        rename News h₀ _ _ _ => NN
        rcases List.mem_cons.mp hq with rfl | hq
        · exact NN _ (.tail _ (.tail _ (.tail _ (.head _))))
        · exact NN _ (.tail _ (.tail _ (.tail _ (.tail _ (.tail _ hq)))))) hnlt
    · refine held_out ?_
      obtain ⟨tv, hv⟩ := hits.get j (psum ws j) (endsL_last ws j)
      have hle9 : Heap.IsList h e its.toArray := ⟨_, News.get N9 (.tail _ (.tail _ (.tail _ (.head _)))), rfl, _, rfl⟩
      refine tail_any hle9.typeIs slot_list_getitem.lookup (wpAny_getItem_list_neg hle9 (by decide) (by rw [List.size_toArray]; omega) (by decide) (x := .int (psum ws j) tv) ?_ ?_) (by with_unfolding_all rfl)
      · rw [List.size_toArray, hlen]
        have e9 : ((-1 : Int) + ((j : Int) + 1)).toNat = j := by omega
        simpa [e9] using hv
      k_steps
      refine held_out ?_
      refine append_K (by assumption) N9 (Upd.tail (Nat.ne_of_gt (Nat.lt_trans hle hga9)) (Upd.tail (Nat.ne_of_gt hle) (Upd.tail (Nat.ne_of_gt (Nat.lt_trans hle hLgI9)) (Upd.head ?_)))) ?_ ?_
      · intro q hq
        rcases List.mem_cons.mp hq with rfl | hq
        · exact Nat.ne_of_lt l1.1
        · exact Nat.ne_of_lt (hnlt q hq)
      · intro h9 F8 N8
        k_steps
        unfold HeldQ
        dsimp only
        refine ⟨_, _, h9, _, rfl, F8, N8, its ++ [.int (psum ws j + yld ws j) _], ne + 1, fun _ => some (.int (yld ws j) t), ?_, by rw [List.push_toArray], ?_, by omega⟩
        · rw [endsL_succ]
          exact intsAre_append hits (IntsAre.cons _ _ IntsAre.nil)
        · funext y
          by_cases hy : y = sSize
          · simp [hy]
          · simp [hy]
      · show its.toArray.size ≤ sizeLine
        rw [List.size_toArray, sizeLine_eq]; omega
  · intro mc led h tk G hz9 hJ hBG F9 N9
    obtain ⟨its, ne, u, hits, rfl, rfl, hj⟩ := hJ
    have eJ : endsL ws ws.length = endsL ws J := by
      rcases hz with ⟨q, _⟩ | ⟨_, _, q2⟩
      · rw [q] at hz9; exact absurd hz9 (by decide)
      · rw [q2]
    rw [eJ] at hits
    clear F2 F3 N2 FG2 F1 N1
    subst hm0
    dsimp only
    k_steps
    exact hret its e ne h _ G hits hBG (by assumption) (fun q hq => by
      rename News h₀ _ _ _ => NN
      rcases List.mem_cons.mp hq with rfl | hq
      · exact NN _ (.head _)
      · exact NN _ (.tail _ (.tail _ hq))) hnlt
end Mine
end
section
open PySem PySem.W PyProof.Rows PySem.Calls PySem.Spec
namespace Mine
/-- a row of a chain: the turn, the width, the height -/
structure Row3 where
  t : Int
  w : Int
  h : Int
def Row3.sel (r : Row3) : Nat → Int
  | 0 => r.t
  | 1 => r.w
  | _ => r.h
def IsRow (h : List (Addr × Obj)) (v : Value) (r : Row3) : Prop := ∃ a n t1 t2 t3, v = .ref a ∧ (a, tupO [.int r.t t1, .int r.w t2, .int r.h t3] n) ∈ h
inductive RowsAre (h : List (Addr × Obj)) : List Value → List Row3 → Prop
  | nil : RowsAre h [] []
  | cons {v r vs rs} : IsRow h v r → RowsAre h vs rs → RowsAre h (v :: vs) (r :: rs)
theorem IsRow.keeps {h h' : List (Addr × Obj)} {v : Value} {r : Row3} (x : IsRow h v r) (k : ∀ q ∈ h, q ∈ h') : IsRow h' v r :=
  let ⟨a, n, t1, t2, t3, e, q⟩ := x; ⟨a, n, t1, t2, t3, e, k _ q⟩
theorem RowsAre.keeps {h h' : List (Addr × Obj)} {vs : List Value} {rs : List Row3} (x : RowsAre h vs rs) (k : ∀ q ∈ h, q ∈ h') : RowsAre h' vs rs := by
  induction x with
  | nil => exact .nil
  | cons a _ ih => exact .cons (a.keeps k) ih
theorem RowsAre.length {h : List (Addr × Obj)} {vs : List Value} {rs : List Row3} (x : RowsAre h vs rs) : vs.length = rs.length := by
  induction x with
  | nil => rfl
  | cons _ _ ih => simp [ih]
theorem RowsAre.take {h : List (Addr × Obj)} {vs : List Value} {rs : List Row3} (x : RowsAre h vs rs) : ∀ n, RowsAre h (vs.take n) (rs.take n) := by
  induction x with
  | nil => intro n; simp; exact .nil
  | cons a _ ih =>
    intro n
    cases n with
    | zero => exact .nil
    | succ n => exact .cons a (ih n)
theorem RowsAre.get {h : List (Addr × Obj)} {vs : List Value} {rs : List Row3} (x : RowsAre h vs rs) : ∀ (i : Nat) (r : Row3), rs[i]? = some r → ∃ v, vs[i]? = some v ∧ IsRow h v r := by
  induction x with
  | nil => intro i r e; simp at e
  | cons a _ ih =>
    intro i r e
    cases i with
    | zero => simp at e; subst e; exact ⟨_, rfl, a⟩
    | succ i => simpa using ih i r (by simpa using e)
theorem RowsAre.mem {h : List (Addr × Obj)} {vs : List Value} {rs : List Row3} (x : RowsAre h vs rs) : ∀ v ∈ vs, ∃ r, IsRow h v r := by
  induction x with
  | nil => intro v e; cases e
  | cons a _ ih =>
    intro v e
    cases e with
    | head => exact ⟨_, a⟩
    | tail _ e => exact ih v e
theorem row_one {h₀ h : Heap} {L : Addr} {news : List (Addr × Obj)} (N : News h₀ L h news) {v : Value} {r r' : Row3} (x : IsRow news v r) (y : IsRow news v r') : r = r' := by
  obtain ⟨a, n, t1, t2, t3, rfl, hm⟩ := x
  obtain ⟨a', n', u1, u2, u3, e, hm'⟩ := y
  cases e
  have z := (N _ hm).1.symm.trans (N _ hm').1
  simp at z
  obtain ⟨⟨⟨z1, _⟩, ⟨z2, _⟩, ⟨z3, _⟩⟩, _⟩ := z
  obtain ⟨a1, a2, a3⟩ := r
  obtain ⟨b1, b2, b3⟩ := r'
  dsimp only at z1 z2 z3
  subst z1 z2 z3
  rfl
theorem paired_rows {h₀ h : Heap} {L : Addr} {news : List (Addr × Obj)} (k : Nat) {vs : List Value} {rs : List Row3} (x : RowsAre news vs rs) (N : News h₀ L h news) : ∀ {ys : List Value}, Paired (fun v y => ∃ r, IsRow news v r ∧ ∃ t, y = .int (r.sel k) t) vs ys → IntsAre ys (rs.map (Row3.sel · k)) := by
  induction x with
  | nil => intro ys p; cases p; exact .nil
  | cons a _ ih =>
    intro ys p
    cases p with
    | cons q p =>
      obtain ⟨r, hr, t, rfl⟩ := q
      rw [row_one N hr a]
      exact .cons _ _ (ih p)
section
variable {prog : Program} {w : World} {A : Around} {E : Value → Shared → Prop} {s : Shared}
theorem sum_K {l : Addr} {vs : List Value} {ns : List Int} {Q : Value → Shared → Prop} (hh : A.handled = none) (hl : s.heap.IsList l vs.toArray) (hi : IntsAre vs ns)
    (h : ∀ h' tk t, (∀ b o, s.heap.get? b = some o → h'.get? b = some o) → Q (.int ns.sum t) { s with heap := h', toks := tk }) :
    wpAny (model prog w) A (call (.builtin "sum") [.ref l]) Q E s := by
  refine call_sum_walkG (wpAny_pyIter_list hl ?_)
  obtain ⟨ol, hol, hol2⟩ := id hl
  have hlt : l < s.heap.objs.size := Heap.lt_size hol
  refine ⟨_, [_, l], [_], _, _, _, fun i => ns.getD i 0, rfl, Walks.list (A := A.in1) hh s.heap.objs.size l (Nat.ne_of_lt hlt) vs.toArray, ⟨⟨_, Heap.get?_push_size _ rfl, rfl, rfl⟩, ⟨ol, Heap.get?_push_of_some _ hol, hol2⟩⟩, fun d hd => ?_, fun i v hP => ?_, fun h' tk t' hk => ?_⟩
  · show d < (s.heap.push _).objs.size
    rw [Heap.size_push]
    rcases List.mem_cons.mp hd with rfl | hd
    · exact Nat.lt_succ_self _
    · rw [List.mem_singleton.mp hd]; exact Nat.lt_succ_of_lt hlt
  · have hP' : vs[i]? = some v := by simpa using hP
    have hil : i < ns.length := by rw [← hi.length]; exact (List.getElem?_eq_some_iff.mp hP').1
    obtain ⟨t, ht⟩ := hi.get i ns[i] (by simp [hil])
    rw [hP'] at ht
    refine ⟨t, ?_⟩
    rw [Option.some.inj ht]
    dsimp only
    rw [List.getD_eq_getElem?_getD]
    simp [hil]
  · have e : vs.toArray.size = ns.length := by rw [List.size_toArray, hi.length]
    have e2 : preSum (fun i => ns.getD i 0) vs.toArray.size = ns.sum := by
      rw [preSum_getD, e, List.take_length]
    rw [e2]
    exact h h' tk t' fun b o eb => hk b o (fun hm => by rw [List.mem_singleton.mp hm] at eb; exact absurd (Heap.lt_size eb) (Nat.lt_irrefl _)) (Heap.get?_push_of_some _ eb)
end
section
variable {prog : Program} {w : World} {A : Around} {E : Value → Shared → Prop} {s : Shared} {env : Env} {h₀ : Heap} {L : Addr} {news : List (Addr × Obj)}
/-- [row[k] for row in ..] -/
theorem comp_row {k : Nat} {iter : Expr} {x : Str} {px px' pc ps pos : Pos} {kk : Nat} {scope : Scope} {Q : Value → Shared → Prop} (hk3 : k < 3)
    (hh : A.handled = none) (hfree : ∀ y ∈ scope.names, y.2 ≠ .free) (hcell : ∀ y ∈ scope.names, y.2 ≠ .cell) (hkind : scope.kind = .function)
    (hnames : ∀ y ∈ scope.names, y.2 = .local → scope.names.lookup y.1 = some .local) (hx : scope.names.lookup x = some .local) (hxd : (x == ("__debug__" : Str)) = false)
    (hsub : ∀ (t : Addr) (u : Tok), subscripted (.Constant (.int (k : Int)) kk pc) false (.ref t) (.int (k : Int) u) = operate [.ref t, .int (k : Int) u] (getItem (.ref t) (.int (k : Int) u)))
    (h : wpAny (model prog w) A (eval iter env) (fun xv s₁ => ∃ ax items rows, xv = .ref ax ∧ s₁.heap.IsList ax (List.toArray items) ∧ items.length < 100000 ∧ RowsAre news items rows ∧ News h₀ L s₁.heap news ∧
      (∀ D h' tk ys, s₁.heap.get? D = none → h'.IsList D (List.toArray ys) → IntsAre ys (rows.map (Row3.sel · k)) → (∀ b o, s₁.heap.get? b = some o → h'.get? b = some o) → Q (.ref D) { s₁ with heap := h', toks := tk })) E s)
    (hs : ∀ x, foldedSetIterable iter env x = pure x := by intro _; rfl) :
    wpAny (model prog w) A (eval (.ListComp (.Subscript (.Name x px') (.Constant (.int (k : Int)) kk pc) ps) [⟨.Name x px, iter, [], 0⟩] scope pos) env) Q E s := by
  refine wpAny_ListComp_map (fun _ => true) (fun v y => ∃ r, IsRow news v r ∧ ∃ t, y = .int (r.sel k) t) hh hfree hcell hkind hnames hx (wpAny_mono h (fun xv s₁ h₁ => ?_) fun _ _ e => e) hs
  obtain ⟨ax, items, rows, rfl, hl, hlen, hrows, N, hQ⟩ := h₁
  refine ⟨ax, items.toArray, rfl, hl, by rw [List.size_toArray, sizeLine_eq]; omega, ?_, ?_, ?_⟩
  · intro C v s₂ m₂ E' _ _ _ _
    exact wpAny_tests_nil ⟨rfl, s₂.heap, s₂.toks, rfl, fun _ _ e => e⟩
  · intro C v s₂ m₂ E' hv _ hn hm hk
    obtain ⟨r, hr⟩ := hrows.mem v (by simpa using hv)
    obtain ⟨a, n, t1, t2, t3, rfl, hmem⟩ := id hr
    refine Subscript_ (wpAny_Name (wpAny_loadName_local hkind hx hn hm ?_) hxd)
    refine wpAny_Constant_int ?_
    have ht : IsTup s₂.heap a (List.toArray [.int r.t t1, .int r.w t2, .int r.h t3]) := ⟨_, hk _ _ (N _ hmem).1, rfl, n, rfl⟩
    have hj : seqIndex? (k : Int) ([.int r.t t1, .int r.w t2, .int r.h t3] : List Value).length = some k := by
      match k, hk3 with
      | 0, _ => rfl
      | 1, _ => rfl
      | 2, _ => rfl
    obtain ⟨t, hx9⟩ : ∃ t, ([.int r.t t1, .int r.w t2, .int r.h t3] : List Value)[k]? = some (.int (r.sel k) t) := by
      match k, hk3 with
      | 0, _ => exact ⟨t1, rfl⟩
      | 1, _ => exact ⟨t2, rfl⟩
      | 2, _ => exact ⟨t3, rfl⟩
    exact item_tupleT ht (by omega) (by omega) hj hx9 ⟨⟨r, hr, t, rfl⟩, s₂.heap, _, rfl, fun _ _ e => e⟩ (hsub a _)
  · intro D h' tk ys hD hl' hp hk
    obtain ⟨l, rfl⟩ : ∃ l : List Value, ys = l.toArray := ⟨ys.toList, by simp⟩
    have hp' : Paired (fun v y => ∃ r, IsRow news v r ∧ ∃ t, y = .int (r.sel k) t) items l := by
      have e : items.filter (fun _ => true) = items := List.filter_eq_self.mpr fun _ _ => rfl
      have hp2 : Paired (fun v y => ∃ r, IsRow news v r ∧ ∃ t, y = .int (r.sel k) t) (items.filter (fun _ => true)) l := hp
      rw [e] at hp2; exact hp2
    exact hQ D h' tk l hD hl' (paired_rows k hrows N hp') hk
end
end Mine
end
section
open PySem PySem.W PyProof.Rows PySem.Calls PySem.Spec
namespace Mine
abbrev lamQ : Str := Str.ofString "_law_cut" ++ ".<locals>." ++ "<lambda>"
def CodeIn (news : List (Addr × Obj)) (c : Addr) : Prop := ∃ oc vs t, (c, oc) ∈ news ∧ oc.data = .fields vs ∧ vs[1]? = some (.str lamQ t)
theorem CodeIn.mono {n1 n2 : List (Addr × Obj)} {c : Addr} (x : CodeIn n1 c) (h : ∀ q ∈ n1, q ∈ n2) : CodeIn n2 c := let ⟨oc, vs, t, a, b⟩ := x; ⟨oc, vs, t, h _ a, b⟩
/-- the table of the two lambdas' code -/
def TabOk (ps : Array Value) (news : List (Addr × Obj)) : Prop :=
  ps = #[] ∨ ∃ c1 c2, ps = #[rawInt 128, rawInt 42, .ref c1, rawInt 129, rawInt 43, .ref c2] ∧ CodeIn news c1 ∧ CodeIn news c2
theorem upd_at {d : Addr} {o : Obj} {post : List (Addr × Obj)} (h2 : ∀ p ∈ post, p.1 ≠ d) : ∀ {pre : List (Addr × Obj)}, (∀ p ∈ pre, p.1 ≠ d) → UpdF d o (pre ++ (d, o) :: post) (fun o' => pre ++ (d, o') :: post)
  | [], _ => .head h2
  | p :: r, h => .tail (h p (.head _)) (upd_at h2 fun q hq => h q (.tail _ hq))
section
variable {M : Model} {A : Around} {E : Value → Shared → Prop} {s : Shared} {h₀ : Heap} {L a : Addr} {m mg mb : Str → Option Value} {cn : Str} {cs : Scope} {ccd : Value} {cl : List (Str × Addr)} {pre post : List (Addr × Obj)}
  {p : Program} {loose : List Str} {mean : ExcName → Option Value} {params : Arguments} {body : Expr} {scope : Scope} {ps : Array Value} {pos : Pos} {clos : List (Str × Addr)} {Q : Value → Shared → Prop}
theorem lam_eval (hdef : defaultsOf params (envX cn cs L a ccd cl) = ([], [])) (hq : cn ++ ".<locals>." ++ "<lambda>" = lamQ) (F : Fr h₀ L s.heap m) (N : News h₀ L s.heap (pre ++ (94, tabObj ps) :: post)) (hpre : ∀ q ∈ pre, q.1 ≠ 94) (hpost : ∀ q ∈ post, q.1 ≠ 94) (T : Top p loose mean mg mb h₀) (C : CodeHd h₀ 96 94) (hcd : ccd = .ref 96)
    (ht : TriplesOk ps.toList) (hcase : codeAmong pos ps.toList = none ∨ ∃ c', codeAmong pos ps.toList = some (.ref c') ∧ CodeIn post c') (hcl : closureFor scope (envX cn cs L a ccd cl) = pure clos)
    (h : ∀ (f c' : Addr) oc vs t ctv pm ps' h' tk, Fr h₀ L h' m → News h₀ L h' ((f, kla_obj "<lambda>" lamQ params body scope clos pm c' ctv) :: (c', oc) :: (pre ++ (94, tabObj ps') :: post)) → oc.data = .fields vs → vs[1]? = some (.str lamQ t) →
      ((codeAmong pos ps.toList = none ∧ ps' = ps ++ #[rawInt pos.line, rawInt pos.col, .ref c']) ∨ (codeAmong pos ps.toList = some (.ref c') ∧ ps' = ps)) → f ≠ 94 → c' ≠ 94 → (∀ q ∈ pre ++ post, q.1 < f) → Q (.ref f) { s with heap := h', toks := tk }) :
    wpAny M A (eval (.Lambda params body scope pos) (envX cn cs L a ccd cl)) Q E s := by
  refine kla_eval hdef ?_
  show wpAny M A (makeFunction "<lambda>" (cn ++ ".<locals>." ++ "<lambda>") params (.expr body) scope (envX cn cs L a ccd cl) [] [] [] pos pos.line) Q E s
  rw [hq]
  rcases hcase with hn | ⟨c', hs, oc, vs, t, hm, hd, hv⟩
  · refine kla_nest F N T C hcd (upd_at hpost hpre) ht hn hcl ?_
    intro f c' oc vs t ctv h' tk F' N' hd hv hlt hcf
    have l94 : 94 < c' := hlt _ (List.mem_append_right _ (.head _))
    refine h f c' oc vs t ctv _ _ h' tk F' N' hd hv (.inl ⟨hn, rfl⟩) (Nat.ne_of_gt (Nat.lt_trans l94 hcf)) (Nat.ne_of_gt l94) fun q hq => Nat.lt_trans (hlt q ?_) hcf
    rcases List.mem_append.mp hq with hq | hq
    · exact List.mem_append_left _ hq
    · exact List.mem_append_right _ (.tail _ hq)
  · refine kla_hit F N T C hcd (List.mem_append_right _ (.head _)) ht hs hcl ?_
    intro f ctv h' tk F' N' hlt
    have l94 : 94 < f := hlt _ (List.mem_append_right _ (.head _))
    refine h f c' oc vs t ctv ((mg "__name__").getD .none) ps h' tk F' (fun q hq => ?_) hd hv (.inr ⟨hs, rfl⟩) (Nat.ne_of_gt l94) (hpost _ hm) fun q hq => hlt q ?_
    · rcases List.mem_cons.mp hq with rfl | hq
      · exact N' _ (.head _)
      rcases List.mem_cons.mp hq with rfl | hq
      · exact N' _ (.tail _ (List.mem_append_right _ (.tail _ hm)))
      · exact N' _ (.tail _ hq)
    · rcases List.mem_append.mp hq with hq | hq
      · exact List.mem_append_left _ hq
      · exact List.mem_append_right _ (.tail _ hq)
end
theorem with_head {h₀ h : Heap} {L a : Addr} {o : Obj} {rest : List (Addr × Obj)} (N : News h₀ L h ((a, o) :: rest)) {P : Prop} (k : ∀ o', o' = o → News h₀ L h ((a, o') :: rest) → P) : P := k o rfl N
end Mine
end
section
open PySem PySem.W PyProof.Rows PySem.Calls PySem.Spec
namespace Mine
structure CutData (need : List (Addr × Obj)) (cv : List Value) (rows : List Row3) (hv : List Value) (hs : List Int) (ev : List Value) (es : List Int) (column : Int) (r rod : Nat) (row : Row3) (e0 base due : Int) (lb ub : Nat) : Prop where
  ints1 : IntsAre hv hs
  ints2 : IntsAre ev es
  rws : RowsAre need cv rows
  l1 : hs.length < 100000
  l2 : es.length < 100000
  l3 : rows.length < 100000
  hr : r ≤ es.length
  hr1 : ∀ (i : Nat) k, es[i]? = some k → i < r → k < column
  hr2 : ∀ (i : Nat) k, es[i]? = some k → r ≤ i → column ≤ k
  hrod : rod = r - 1
  hrow : rows[rod]? = some row
  he0 : es[rod]? = some e0
  hbase : base = ((rows.take rod).map (Row3.sel · 2)).sum
  hdue : due = row.h * (column - e0)
  b1 : ∀ k ∈ hs, -100 ≤ k ∧ k ≤ 100
  b2 : -1000 ≤ base ∧ base ≤ 1000
  b3 : 0 ≤ row.w ∧ row.w ≤ 1000
  b4 : -1000 ≤ row.h ∧ row.h ≤ 1000
  b5 : -1000 ≤ column - e0 ∧ column - e0 ≤ 1000
  b6 : ∀ k ∈ (rows.take rod).map (Row3.sel · 2), -1000 ≤ k ∧ k ≤ 1000
  lb0 : lb ≤ hs.length
  lb1 : ∀ (i : Nat) k, hs[i]? = some k → i < lb → (k - base) * row.w < due
  lb2 : ∀ (i : Nat) k, hs[i]? = some k → lb ≤ i → due ≤ (k - base) * row.w
  ub0 : ub ≤ hs.length
  ub1 : ∀ (i : Nat) k, hs[i]? = some k → i < ub → (k - base) * row.w ≤ due
  ub2 : ∀ (i : Nat) k, hs[i]? = some k → ub ≤ i → due < (k - base) * row.w
local macro_rules | `(tactic| walk_at $s:str) => do
  unless ["call ref", "eval ListComp", "eval Lambda", "call builtin:max", "call builtin:sum", "subscriptTail Name Name ref int", "subscriptTail Name Slice ref ref"].contains s.getString do Lean.Macro.throwUnsupported
  `(tactic| refine held ?_)
theorem ne1 {l : List (Addr × Obj)} {L : Addr} (h : ∀ p ∈ l, p.1 < L) : ∀ p ∈ l, p.1 ≠ L + 1 := fun p hp => Nat.ne_of_lt (Nat.lt_succ_of_lt (h p hp))
theorem ne2 {l : List (Addr × Obj)} {L : Addr} (h : ∀ p ∈ l, p.1 < L) : ∀ p ∈ l, p.1 ≠ L + 1 + 1 := fun p hp => Nat.ne_of_lt (Nat.lt_succ_of_lt (Nat.lt_succ_of_lt (h p hp)))
local macro_rules | `(tactic| k_all) => `(tactic| first | exact ne1 (by assumption) | exact ne2 (by assumption))
theorem cut1 (w : World) (hl cl el : Addr) (n1 n2 n3 : Nat) (tc : Tok) {cv : List Value} {rows : List Row3} {hv : List Value} {hs : List Int} {ev : List Value} {es : List Int} {column : Int} {r rod : Nat} {row : Row3} {e0 base due : Int} {lb ub : Nat}
    (p : Program) (loose : List Str) (mean : ExcName → Option Value) (mg mb : Str → Option Value) (dp un : Nat) (gd : Option (List Code)) (cn : Str) (cs : Scope) (a : Addr) (ccd : Value) (cl' : List (Str × Addr)) (outer : List Env) (A₀ : Around) (bas h₀ : Heap) (L : Addr) (m : Str → Option Value) (news : List (Addr × Obj)) (ps : Array Value) (s : Shared) (Q E : Value → Shared → Prop)
    (B : Below A₀ bas outer h₀) (F : Fr h₀ L s.heap m) (X : (KK w).In h₀) (N : News h₀ L s.heap ((94, tabObj ps) :: news)) (hoff : ∀ q ∈ news, q.1 ≠ 94) (T : Top p loose mean mg mb h₀) (hk : cs.kind = .function)
    (tab : TabOk ps news) (chd : CodeHd h₀ 96 94) (D : CutData news cv rows hv hs ev es column r rod row e0 base due lb ub)
    (m1 : (hl, listOf hv.toArray n1) ∈ news) (m2 : (cl, listOf cv.toArray n2) ∈ news) (m3 : (el, listOf ev.toArray n3) ∈ news)
    (hd : dp + 4 < recursionLimit) (hu : un + 12 * 4 < cLine)
    (hret : ∀ (b : Addr) (u1 u2 : Tok) (ps' : Array Value) (news' : List (Addr × Obj)) (h' : Heap) (tk' : Nat), TabOk ps' news' → (∀ q ∈ news, q ∈ news') → (∀ q ∈ news', q.1 ≠ 94) → b ≠ 94 → Fr h₀ L h' m → News h₀ L h' ((94, tabObj ps') :: (b, tupO [.int lb u1, .int ub u2]) :: news') → Q (.ref b) { s with heap := h', toks := tk' }) :
    wpAny (model PR w) (ktrTop dp un gd cn cs L a ccd cl' outer) (call (.ref 97) [.ref hl, .ref cl, .ref el, .int column tc] []) Q E s := by
  unfold KK at X
  unfold PR
  revert X hk hd hu
  k_fill
  intro X hk hd hu
  have hneed : ∀ q ∈ [(el, listOf ev.toArray n3)], q ∈ news := fun q hq => by cases List.mem_singleton.mp hq; exact m3
  refine wpAny_call ?_
  k_dflt (refine' code_defC ?k1 ?k2 ?k3 ?k4 ?k5 ?kA ?kF ?kK ?k6 ?k7 ?k8 ?k9 ?kB ?kD ?_ ?c2 ?c3 ?c4; (case kA => exact rfl); (case kF => exact rfl); (case kK => assumption); (case k1 => k_asm); (case k2 => k_asm); (case k3 => k_asm); (case k4 => k_asm); (case k5 => k_asm); (case k6 => k_is); (case k7 => k_is); (case k8 => ktr_room); (case k9 => exact BindsTo.of_eq rfl); (case kB => exact rfl); (case kD => decide +kernel); (case c2 => exact rfl); (case c3 => exact rfl); (case c4 => exact rfl); k_whole; intro g1 Lc hx tkx cells' FG1 F1 N1 Y' B1 X1 T1 lt1; k_cells Y'; (try simp only [List.cons_append, List.nil_append] at N1); (try dsimp only); (try k_lift B1); (try k_fold))
  rename_i oc1 oc2 dc1 dc2
  have hdue := D.hdue
  subst hdue
  obtain ⟨va, hva, ra, rn, rt1, rt2, rt3, rfl, hrm⟩ := D.rws.get rod row D.hrow
  have N2 : News g1 Lc hx ((Lc + 1 + 1, oc1) :: (Lc + 1, oc2) :: (94, tabObj ps) :: (ra, tupO [.int row.t rt1, .int row.w rt2, .int row.h rt3] rn) :: news) := fun q hq => by
    rcases List.mem_cons.mp hq with rfl | hq
    · exact N1 _ (.head _)
    rcases List.mem_cons.mp hq with rfl | hq
    · exact N1 _ (.tail _ (.head _))
    rcases List.mem_cons.mp hq with rfl | hq
    · exact N1 _ (.tail _ (.tail _ (.head _)))
    rcases List.mem_cons.mp hq with rfl | hq
    · exact N1 _ (.tail _ (.tail _ (.tail _ hrm)))
    · exact N1 _ (.tail _ (.tail _ (.tail _ hq)))
  have lt2 : ∀ q ∈ ((94, tabObj ps) :: (ra, tupO [.int row.t rt1, .int row.w rt2, .int row.h rt3] rn) :: news : List (Addr × Obj)), q.1 < Lc := fun q hq => by
    rcases List.mem_cons.mp hq with rfl | hq
    · exact lt1 _ (.head _)
    rcases List.mem_cons.mp hq with rfl | hq
    · exact lt1 _ (.tail _ hrm)
    · exact lt1 _ (.tail _ hq)
  clear N1 lt1
  k_steps
  refine held_out ?_
  refine bl_plain w el ev n3 es column tc 0 r D.ints2 (by have := D.l2; omega) D.hr D.hr1 D.hr2 _ _ _ _ _ _ _ _ _ _ _ _ _ _ _ _ _ _ _ _ _ _ _ (by assumption) (by assumption) (by assumption) (by assumption) (by assumption) rfl (fun q hq => .tail _ (.tail _ (.tail _ (.tail _ (hneed q hq))))) (by ktr_room) (by ktr_units) ?_
  intro t9 h9 tk9 F9 N9
  dsimp only
  k_steps
  refine held_out ?_
  refine max_two_N rfl (by assumption) (by assumption) ?_
  intro h8 tk8 F8 N8
  have erod : (if (0 : Int) > (r : Int) - 1 then (0 : Int) else (r : Int) - 1) = (rod : Int) := by rw [D.hrod]; split <;> omega
  dsimp only
  rw [erod]
  k_steps
  refine held_out ?_
  refine comp_row (k := 2) (news := news) (L := Lc) (h₀ := g1) (by decide) rfl (by decide) (by decide) rfl (by decide) rfl rfl (fun t u => by with_unfolding_all rfl) ?_
  k_steps
  refine held_out ?_
  refine kms_slice_lit (zs := cv.take rod) (by assumption) (by assumption) ⟨_, News.get (by assumption) (.tail _ (.tail _ (.tail _ (.tail _ m2)))), rfl, n2, rfl⟩ .none (.int _ _) ?_ ?_ (by with_unfolding_all rfl) (fun _ => by with_unfolding_all rfl) ?_
  · show kms_pick cv none (some (rod : Int)) = cv.take rod
    unfold kms_pick kms_lo kms_hi
    have e1 : ¬ ((rod : Int) < 0) := by omega
    simp only [if_neg e1, Int.toNat_natCast, List.drop_zero, Nat.sub_zero]
    rw [Nat.min_def]
    split
    · rfl
    · rw [List.take_of_length_le (Nat.le_refl _), List.take_of_length_le (by omega)]
  · intro Dd hd1 Fd Nd ltd
    refine ⟨Dd, cv.take rod, rows.take rod, rfl, ⟨_, News.get Nd (.head _), rfl, 0, rfl⟩, ?_, D.rws.take rod, fun q hq => Nd q (.tail _ (.tail _ (.tail _ (.tail _ (.tail _ hq))))), ?_⟩
    · have := D.rws.length; have := D.l3; rw [List.length_take]; omega
    · intro Dc h7 tk7 ys hDc hlD hints hk7
      have F7 : Fr g1 Lc h7 _ := Fr.grownK Fd hk7
      have N7 := News.grown Nd hk7
      k_steps
      refine held_out ?_
      refine sum_K rfl hlD hints ?_
      intro h6 tk6 t6 hk6
      rw [← D.hbase]
      have F6 := Fr.grownK F7 hk6
      have N6 := News.grown N7 hk6
      clear F7 N7 Fd Nd
      have l9 := ltd
      k_lt l9
      have b3 := D.b3
      have b4 := D.b4
      have b5 := D.b5
      k_steps
      refine held_out ?_
      refine item_litK (vs := cv) (v := .ref ra) ⟨_, News.get (by assumption) (.tail _ (.tail _ (.tail _ (.tail _ (.tail _ m2))))), rfl, n2, rfl⟩ (by omega) (by have := D.rws.length; have := D.l3; have := (List.getElem?_eq_some_iff.mp D.hrow).1; omega) (by simpa using hva) ?_ (by with_unfolding_all rfl)
      k_steps
      refine held_out ?_
      refine item_litK (vs := cv) (v := .ref ra) ⟨_, News.get (by assumption) (.tail _ (.tail _ (.tail _ (.tail _ (.tail _ m2))))), rfl, n2, rfl⟩ (by omega) (by have := D.rws.length; have := D.l3; have := (List.getElem?_eq_some_iff.mp D.hrow).1; omega) (by simpa using hva) ?_ (by with_unfolding_all rfl)
      k_steps
      refine held_out ?_
      obtain ⟨te, hte⟩ := D.ints2.get rod e0 D.he0
      refine item_litK (vs := ev) (v := .int e0 te) ⟨_, News.get (by assumption) (.tail _ (.tail _ (.tail _ (.tail _ (.tail _ m3))))), rfl, n3, rfl⟩ (by omega) (by have := D.l2; have := (List.getElem?_eq_some_iff.mp D.he0).1; omega) (by simpa using hte) ?_ (by with_unfolding_all rfl)
      k_steps
      refine held_out ?_
      rename_i hb1 ob db hb2 ow dw h4 F4 N4
      have h94 : 94 < Lc := lt2 _ (.head _)
      have hra : ra ≠ 94 := hoff _ hrm
      have hpost : ∀ q ∈ ((ra, tupO [.int row.t rt1, .int row.w rt2, .int row.h rt3] rn) :: news : List (Addr × Obj)), q.1 ≠ 94 := fun q hq => by
        rcases List.mem_cons.mp hq with rfl | hq
        · exact hra
        · exact hoff q hq
      have hc1 : codeAmong ⟨128, 42, 128, 79⟩ ps.toList = none ∨ ∃ c', codeAmong ⟨128, 42, 128, 79⟩ ps.toList = some (.ref c') ∧ CodeIn ((ra, tupO [.int row.t rt1, .int row.w rt2, .int row.h rt3] rn) :: news) c' := by
        rcases tab with rfl | ⟨c1, c2, rfl, q1, q2⟩
        · exact .inl rfl
        · exact .inr ⟨c1, by simp [codeAmong, rawInt], q1.mono fun q hq => .tail _ hq⟩
      have ht1 : TriplesOk ps.toList := by
        rcases tab with rfl | ⟨c1, c2, rfl, q1, q2⟩
        · exact True.intro
        · simp [TriplesOk, rawInt]
      refine lam_eval (pre := [_, _, _]) (post := (ra, tupO [.int row.t rt1, .int row.w rt2, .int row.h rt3] rn) :: news) (ps := ps) rfl rfl F4 N4 ?_ hpost T1 (chd.keeps FG1.keep) rfl ht1 hc1 rfl ?_
      · intro q hq
        rcases List.mem_cons.mp hq with rfl | hq
        · exact Nat.ne_of_gt l9.2.2.1
        rcases List.mem_cons.mp hq with rfl | hq
        · exact Nat.ne_of_gt (Nat.lt_succ_of_lt (Nat.lt_succ_of_lt h94))
        rcases List.mem_cons.mp hq with rfl | hq
        · exact Nat.ne_of_gt (Nat.lt_succ_of_lt h94)
        · cases hq
      intro f1 c1 ocd1 vs1 u1 ctv1 pm1 ps1 h5 tk5 F5 N5 hd1' hv1' hps1 nf1 nc1 ltf1
      refine with_head N5 ?_
      intro o1 ho1 N5'
      clear N5 N4 F4
      k_steps
      refine held_out ?_
      have hfn1 : FnOk w [(f1, o1), (c1, ocd1), (Lc + 1 + 1, ow), (Lc + 1, ob)] f1 := fun h₀ L h nn X N hn => by
        subst ho1
        exact FnAt.of N (hn _ (.head _))
      have hkey1 : KeyOk w [(f1, o1), (c1, ocd1), (Lc + 1 + 1, ow), (Lc + 1, ob)] f1 hv (hs.map fun x => (x - base) * row.w) := by
        intro i v k hv9 hk9
        rw [List.getElem?_map] at hk9
        obtain ⟨x, hx1, rfl⟩ := Option.map_eq_some_iff.mp hk9
        obtain ⟨tt, ht9⟩ := D.ints1.get i x hx1
        rw [hv9] at ht9
        cases ht9
        have bh := D.b1 x (List.mem_of_getElem? hx1)
        have bb := D.b2
        clear F5 N5' hret FG1 B1 X1 T1 F N B X T
        unfold Gives KK PR
        intro p loose mean mg mb dp un gd cn cs a ccd cl outer A₀ base' h₀ L m news s Q E B F X N T hk hn hd hu hret
        have N := news_in N hn
        simp only [List.cons_append, List.nil_append] at N
        subst ho1
        refine wpAny_call ?_
        k_dflt (refine' kla_code ?k1 ?k2 ?k3 ?k4 ?k5 ?kA ?kF ?kK ?k6 ?k7 ?k8 ?k9 ?kB ?_ ?c2 ?c3 ?c4 ?c5; (case kA => exact rfl); (case kF => exact rfl); (case kK => assumption); (case k1 => k_asm); (case k2 => k_asm); (case k3 => k_asm); (case k4 => k_asm); (case k5 => k_asm); (case k6 => k_mem); (case k7 => exact codeRec_news (by k_asm) (by k_mem) (by assumption) (by assumption)); (case k8 => ktr_room); (case k9 => exact rfl); (case c5 => decide); (case kB => exact locs rfl); (case c2 => exact rfl); (case c3 => exact rfl); (case c4 => exact rfl); k_whole; intro g' L' h' FG' F' N' B' X' T'; (try dsimp only); (try k_lift B'); (try k_fold))
        k_steps
        exact hret _ _ _ (by assumption) (news_tl (news_tl (news_tl (news_tl (by assumption)))))
      have hlk : hv.length = (hs.map fun x => (x - base) * row.w).length := by rw [List.length_map, D.ints1.length]
      simp only [List.cons_append, List.nil_append] at N5'
      refine bl_key w hl f1 hv n1 (hs.map fun x => (x - base) * row.w) (row.h * (column - e0)) _ 0 [(f1, o1), (c1, ocd1), (Lc + 1 + 1, ow), (Lc + 1, ob)] lb hlk (by rw [List.length_map]; have := D.l1; omega) hfn1 hkey1 (by rw [List.length_map]; exact D.lb0) ?_ ?_ _ _ _ _ _ _ _ _ _ _ _ _ _ _ _ _ _ _ _ _ _ _ _ (by assumption) (by assumption) (by assumption) (by assumption) (by assumption) rfl ?_ (by ktr_room) (by ktr_units) ?_
      · intro i k hk9 hlt
        rw [List.getElem?_map] at hk9
        obtain ⟨x, hx1, rfl⟩ := Option.map_eq_some_iff.mp hk9
        exact D.lb1 i x hx1 hlt
      · intro i k hk9 hlt
        rw [List.getElem?_map] at hk9
        obtain ⟨x, hx1, rfl⟩ := Option.map_eq_some_iff.mp hk9
        exact D.lb2 i x hx1 hlt
      · intro q hq
        rcases List.mem_cons.mp hq with rfl | hq
        · exact .tail _ (.tail _ (.tail _ (.tail _ (.tail _ (.tail _ (.tail _ m1))))))
        rcases List.mem_cons.mp hq with rfl | hq
        · exact .head _
        rcases List.mem_cons.mp hq with rfl | hq
        · exact .tail _ (.head _)
        rcases List.mem_cons.mp hq with rfl | hq
        · exact .tail _ (.tail _ (.tail _ (.head _)))
        rcases List.mem_cons.mp hq with rfl | hq
        · exact .tail _ (.tail _ (.tail _ (.tail _ (.head _))))
        · cases hq
      intro t3 h3 tk3 F3 N3
      dsimp only
      clear F5 N5'
      k_steps
      refine held_out ?_
      rename_i h2 F2 N2
      have hfull : ps1 = #[rawInt 128, rawInt 42, .ref c1] ∨ ∃ c2, ps1 = #[rawInt 128, rawInt 42, .ref c1, rawInt 129, rawInt 43, .ref c2] ∧ CodeIn news c2 := by
        rcases tab with rfl | ⟨c1', c2', rfl, q1, q2⟩
        · rcases hps1 with ⟨_, rfl⟩ | ⟨hx9, _⟩
          · exact .inl rfl
          · simp [codeAmong] at hx9
        · rcases hps1 with ⟨hx9, _⟩ | ⟨hx9, rfl⟩
          · simp [codeAmong, rawInt] at hx9
          · have e9 : c1' = c1 := by simpa [codeAmong, rawInt] using hx9
            subst e9
            exact .inr ⟨c2', rfl, q2⟩
      have hc2 : codeAmong ⟨129, 43, 129, 80⟩ ps1.toList = none ∨ ∃ c', codeAmong ⟨129, 43, 129, 80⟩ ps1.toList = some (.ref c') ∧ CodeIn ((ra, tupO [.int row.t rt1, .int row.w rt2, .int row.h rt3] rn) :: news) c' := by
        rcases hfull with rfl | ⟨c2, rfl, q2⟩
        · exact .inl (by simp [codeAmong, rawInt])
        · exact .inr ⟨c2, by simp [codeAmong, rawInt], q2.mono fun q hq => .tail _ hq⟩
      have ht2 : TriplesOk ps1.toList := by
        rcases hfull with rfl | ⟨c2, rfl, q2⟩
        · simp [TriplesOk, rawInt]
        · simp [TriplesOk, rawInt]
      refine lam_eval (pre := [_, _, _, _, _]) (post := (ra, tupO [.int row.t rt1, .int row.w rt2, .int row.h rt3] rn) :: news) (ps := ps1) rfl rfl F2 N2 ?_ hpost T1 (chd.keeps FG1.keep) rfl ht2 hc2 rfl ?_
      · intro q hq
        rcases List.mem_cons.mp hq with rfl | hq
        · exact nf1
        rcases List.mem_cons.mp hq with rfl | hq
        · exact nc1
        rcases List.mem_cons.mp hq with rfl | hq
        · exact Nat.ne_of_gt l9.2.2.1
        rcases List.mem_cons.mp hq with rfl | hq
        · exact Nat.ne_of_gt (Nat.lt_succ_of_lt (Nat.lt_succ_of_lt h94))
        rcases List.mem_cons.mp hq with rfl | hq
        · exact Nat.ne_of_gt (Nat.lt_succ_of_lt h94)
        · cases hq
      intro f2 c2 ocd2 vs2 u2 ctv2 pm2 ps2 h1 tk1 F1' N1' hd2' hv2' hps2 nf2 nc2 ltf2
      refine with_head N1' ?_
      intro o2 ho2 N1''
      clear N1' N2 F2
      k_steps
      refine held_out ?_
      have hfn2 : FnOk w [(f2, o2), (c2, ocd2), (Lc + 1 + 1, ow), (Lc + 1, ob)] f2 := fun h₀ L h nn X N hn => by
        subst ho2
        exact FnAt.of N (hn _ (.head _))
      have hkey2 : KeyOk w [(f2, o2), (c2, ocd2), (Lc + 1 + 1, ow), (Lc + 1, ob)] f2 hv (hs.map fun x => (x - base) * row.w) := by
        intro i v k hv9 hk9
        rw [List.getElem?_map] at hk9
        obtain ⟨x, hx1, rfl⟩ := Option.map_eq_some_iff.mp hk9
        obtain ⟨tt, ht9⟩ := D.ints1.get i x hx1
        rw [hv9] at ht9
        cases ht9
        have bh := D.b1 x (List.mem_of_getElem? hx1)
        have bb := D.b2
        clear F1' N1'' hret FG1 B1 X1 T1 F N B X T
        unfold Gives KK PR
        intro p loose mean mg mb dp un gd cn cs a ccd cl outer A₀ base' h₀ L m news s Q E B F X N T hk hn hd hu hret
        have N := news_in N hn
        simp only [List.cons_append, List.nil_append] at N
        subst ho2
        refine wpAny_call ?_
        k_dflt (refine' kla_code ?k1 ?k2 ?k3 ?k4 ?k5 ?kA ?kF ?kK ?k6 ?k7 ?k8 ?k9 ?kB ?_ ?c2 ?c3 ?c4 ?c5; (case kA => exact rfl); (case kF => exact rfl); (case kK => assumption); (case k1 => k_asm); (case k2 => k_asm); (case k3 => k_asm); (case k4 => k_asm); (case k5 => k_asm); (case k6 => k_mem); (case k7 => exact codeRec_news (by k_asm) (by k_mem) (by assumption) (by assumption)); (case k8 => ktr_room); (case k9 => exact rfl); (case c5 => decide); (case kB => exact locs rfl); (case c2 => exact rfl); (case c3 => exact rfl); (case c4 => exact rfl); k_whole; intro g' L' h' FG' F' N' B' X' T'; (try dsimp only); (try k_lift B'); (try k_fold))
        k_steps
        exact hret _ _ _ (by assumption) (news_tl (news_tl (news_tl (news_tl (by assumption)))))
      simp only [List.cons_append, List.nil_append] at N1''
      refine br_key w hl f2 hv n1 (hs.map fun x => (x - base) * row.w) (row.h * (column - e0)) _ 0 [(f2, o2), (c2, ocd2), (Lc + 1 + 1, ow), (Lc + 1, ob)] ub hlk (by rw [List.length_map]; have := D.l1; omega) hfn2 hkey2 (by rw [List.length_map]; exact D.ub0) ?_ ?_ _ _ _ _ _ _ _ _ _ _ _ _ _ _ _ _ _ _ _ _ _ _ _ (by assumption) (by assumption) (by assumption) (by assumption) (by assumption) rfl ?_ (by ktr_room) (by ktr_units) ?_
      · intro i k hk9 hlt
        rw [List.getElem?_map] at hk9
        obtain ⟨x, hx1, rfl⟩ := Option.map_eq_some_iff.mp hk9
        exact D.ub1 i x hx1 hlt
      · intro i k hk9 hlt
        rw [List.getElem?_map] at hk9
        obtain ⟨x, hx1, rfl⟩ := Option.map_eq_some_iff.mp hk9
        exact D.ub2 i x hx1 hlt
      · intro q hq
        rcases List.mem_cons.mp hq with rfl | hq
        · exact .tail _ (.tail _ (.tail _ (.tail _ (.tail _ (.tail _ (.tail _ (.tail _ (.tail _ m1))))))))
        rcases List.mem_cons.mp hq with rfl | hq
        · exact .head _
        rcases List.mem_cons.mp hq with rfl | hq
        · exact .tail _ (.head _)
        rcases List.mem_cons.mp hq with rfl | hq
        · exact .tail _ (.tail _ (.tail _ (.tail _ (.tail _ (.head _)))))
        rcases List.mem_cons.mp hq with rfl | hq
        · exact .tail _ (.tail _ (.tail _ (.tail _ (.tail _ (.tail _ (.head _))))))
        · cases hq
      intro t0 h0 tk0 F0 N0
      dsimp only
      clear F1' N1''
      k_steps
      rename News h₀ _ _ _ => NN
      rename Fr h₀ _ _ _ => FF
      refine hret _ t3 t0 ps2 ((c2, ocd2) :: (c1, ocd1) :: news) _ _ ?_ (fun q hq => .tail _ (.tail _ hq)) ?_ (by refine neN ?_; omega) FF ?_
      · have ci1 : CodeIn ((c2, ocd2) :: (c1, ocd1) :: news) c1 := ⟨ocd1, vs1, u1, .tail _ (.head _), hd1', hv1'⟩
        have ci2 : CodeIn ((c2, ocd2) :: (c1, ocd1) :: news) c2 := ⟨ocd2, vs2, u2, .head _, hd2', hv2'⟩
        rcases hfull with rfl | ⟨c2', rfl, q2⟩
        · rcases hps2 with ⟨_, rfl⟩ | ⟨hx9, _⟩
          · exact .inr ⟨c1, c2, rfl, ci1, ci2⟩
          · simp [codeAmong, rawInt] at hx9
        · rcases hps2 with ⟨hx9, _⟩ | ⟨hx9, rfl⟩
          · simp [codeAmong, rawInt] at hx9
          · have e9 : c2' = c2 := by simpa [codeAmong, rawInt] using hx9
            subst e9
            exact .inr ⟨c1, c2', rfl, ci1, ci2⟩
      · intro q hq
        rcases List.mem_cons.mp hq with rfl | hq
        · exact nc2
        rcases List.mem_cons.mp hq with rfl | hq
        · exact nc1
        · exact hoff q hq
      · intro q hq
        rcases List.mem_cons.mp hq with rfl | hq
        · exact NN _ (.tail _ (.tail _ (.tail _ (.tail _ (.tail _ (.tail _ (.tail _ (.tail _ (.head _)))))))))
        rcases List.mem_cons.mp hq with rfl | hq
        · exact NN _ (.head _)
        rcases List.mem_cons.mp hq with rfl | hq
        · exact NN _ (.tail _ (.tail _ (.head _)))
        rcases List.mem_cons.mp hq with rfl | hq
        · exact NN _ (.tail _ (.tail _ (.tail _ (.tail _ (.head _)))))
        · exact NN _ (.tail _ (.tail _ (.tail _ (.tail _ (.tail _ (.tail _ (.tail _ (.tail _ (.tail _ (.tail _ hq))))))))))
  · show cv.toArray.size ≤ sizeLine
    rw [List.size_toArray, sizeLine_eq]; have := D.rws.length; have := D.l3; omega
end Mine
end
section
open PySem.Flt PySem PySem.W PyProof.Rows PySem.Calls PySem.Spec
namespace Mine
/-- n / 8 -/
def divB (n : Int) : UInt64 := Float64.ofFrac (decide (n < 0) != decide ((8 : Int) < 0)) n.natAbs (8 : Int).natAbs
/-- the place of a rod's hue, from magenta on -/
def turnT (w h : Int) : Int := if h ≤ 0 then 840 - 840 * (-h) / (w - h) else if h ≤ w then 840 + 840 * h / w else 2520 - 840 * w / h
def okB (r g b : UInt64) : Bool :=
  !(Float64.cmp (fmin3 r g b) (fmax3 r g b) == some .eq) && !Float64.isZero (fmax3 r g b) && !Float64.isZero (Float64.sub (fmax3 r g b) (fmin3 r g b)) && !Float64.isZero (Float64.add (fmax3 r g b) (fmin3 r g b)) &&
  !Float64.isZero (Float64.sub (Float64.sub 4611686018427387904 (fmax3 r g b)) (fmin3 r g b)) && !Float64.isNaN (inB (hueB r g b)) && !Float64.isInf (inB (hueB r g b))
def tableB : Bool := (List.range 3).all fun b => (List.range 3).all fun d => (List.range 5).all fun g =>
  okB (divB ((b : Int) + 1 + d)) (divB g) (divB b) && !Float64.isInf (divB ((b : Int) + 1 + d)) && !Float64.isInf (divB g) && !Float64.isInf (divB b) && decide (turnB (hueB (divB ((b : Int) + 1 + d)) (divB g) (divB b)) = turnT (1 + d) ((g : Int) - b))
theorem tableB_ok : tableB = true := by decide +kernel
structure HueOk (red green blue : Int) : Prop where
  rgb : OkRGB (divB red) (divB green) (divB blue)
  nan : Float64.isNaN (inB (hueB (divB red) (divB green) (divB blue))) = false
  inf : Float64.isInf (inB (hueB (divB red) (divB green) (divB blue))) = false
  i1 : Float64.isInf (divB red) = false
  i2 : Float64.isInf (divB green) = false
  i3 : Float64.isInf (divB blue) = false
  turn : turnB (hueB (divB red) (divB green) (divB blue)) = turnT (red - blue) (green - blue)
theorem hue_ok {red green blue : Int} (h1 : 0 ≤ blue) (h2 : blue < 3) (h3 : 1 ≤ red - blue) (h4 : red - blue ≤ 3) (h5 : 0 ≤ green) (h6 : green < 5) : HueOk red green blue := by
  obtain ⟨b, rfl⟩ := Int.eq_ofNat_of_zero_le h1
  obtain ⟨g, rfl⟩ := Int.eq_ofNat_of_zero_le h5
  obtain ⟨d, hd⟩ := Int.eq_ofNat_of_zero_le (show 0 ≤ red - (b : Int) - 1 by omega)
  have er : red = (b : Int) + 1 + d := by omega
  subst er
  have t := tableB_ok
  unfold tableB at t
  have t1 := List.all_eq_true.mp (List.all_eq_true.mp (List.all_eq_true.mp t b (List.mem_range.mpr (by omega))) d (List.mem_range.mpr (by omega))) g (List.mem_range.mpr (by omega))
  unfold okB at t1
  simp only [Bool.and_eq_true, Bool.not_eq_true', decide_eq_true_eq] at t1
  obtain ⟨⟨⟨⟨⟨⟨⟨⟨⟨⟨a1, a2⟩, a3⟩, a4⟩, a5⟩, a6⟩, a7⟩, a8⟩, a9⟩, a10⟩, a11⟩ := t1
  have e : (b : Int) + 1 + d - b = 1 + d := by omega
  exact ⟨⟨a1, a2, a3, a4, a5⟩, a6, a7, a8, a9, a10, by rw [e]; exact a11⟩
def slopeB : Bool := (List.range 3).all fun a => (List.range 3).all fun c => (List.range 7).all fun b => (List.range 7).all fun d =>
  decide (turnT ((a : Int) + 1) ((b : Int) - 2) < turnT ((c : Int) + 1) ((d : Int) - 2)) == decide (((b : Int) - 2) * ((c : Int) + 1) < ((d : Int) - 2) * ((a : Int) + 1))
theorem slopeB_ok : slopeB = true := by decide +kernel
theorem slope {w h v k : Int} (h1 : 1 ≤ w ∧ w ≤ 3) (h2 : -2 ≤ h ∧ h ≤ 4) (h3 : 1 ≤ v ∧ v ≤ 3) (h4 : -2 ≤ k ∧ k ≤ 4) : turnT w h < turnT v k ↔ h * v < k * w := by
  obtain ⟨a, ha⟩ := Int.eq_ofNat_of_zero_le (show 0 ≤ w - 1 by omega)
  obtain ⟨b, hb⟩ := Int.eq_ofNat_of_zero_le (show 0 ≤ h + 2 by omega)
  obtain ⟨c, hc⟩ := Int.eq_ofNat_of_zero_le (show 0 ≤ v - 1 by omega)
  obtain ⟨d, hd⟩ := Int.eq_ofNat_of_zero_le (show 0 ≤ k + 2 by omega)
  have e1 : w = (a : Int) + 1 := by omega
  have e2 : h = (b : Int) - 2 := by omega
  have e3 : v = (c : Int) + 1 := by omega
  have e4 : k = (d : Int) - 2 := by omega
  subst e1 e2 e3 e4
  have t := slopeB_ok
  unfold slopeB at t
  have t1 := List.all_eq_true.mp (List.all_eq_true.mp (List.all_eq_true.mp (List.all_eq_true.mp t a (List.mem_range.mpr (by omega))) c (List.mem_range.mpr (by omega))) b (List.mem_range.mpr (by omega))) d (List.mem_range.mpr (by omega))
  have t2 := beq_iff_eq.mp t1
  constructor
  · intro q
    rw [decide_eq_true q] at t2
    exact of_decide_eq_true t2.symm
  · intro q
    rw [decide_eq_true q] at t2
    exact of_decide_eq_true t2
end Mine
end
section
open PySem PySem.W PyProof.Rows PySem.Calls PySem.Spec
namespace Mine
section
variable {prog : Program} {w : World} {A : Around} {E : Value → Shared → Prop} {s : Shared} {env : Env} {h₀ : Heap} {x : Str} {body : List Stmt} {Q : Flow → Shared → Prop}
/-- a loop over a list that the call has made -/
theorem loop_list {l : Addr} {items : List Value} {k0 : Nat} {m₀ : Str → Option Value} {news : List (Addr × Obj)} (J : Nat → (Str → Option Value) → List (Addr × Obj) → Prop)
    (hh : A.handled = none) (F : Fr h₀ env.locals s.heap m₀) (N : News h₀ env.locals s.heap news) (hl : (l, listOf items.toArray k0) ∈ news) (hj : J 0 m₀ news)
    (turn : ∀ i v m₁ news₁ h tk own, items[i]? = some v → J i m₁ news₁ → (∀ p ∈ own, p.1 = s.heap.objs.size ∨ p.1 = l) → (∃ o, (s.heap.objs.size, o) ∈ own) → (∀ p ∈ news₁, p.1 ≠ s.heap.objs.size) → Fr h₀ env.locals h (fun y => if y = x then some v else m₁ y) → News h₀ env.locals h (own ++ news₁) →
      wpAny (model prog w) A (execs body env) (LoopStepV h₀ env.locals [s.heap.objs.size] own (J (i + 1)) { s with heap := h, toks := tk } (fun v s' => Q (.ret v) s') fun s' => Q .next s') E { s with heap := h, toks := tk })
    (done : ∀ m₁ news₁ h tk, J items.length m₁ news₁ → Fr h₀ env.locals h m₁ → News h₀ env.locals h news₁ → Q .next { s with heap := h, toks := tk }) :
    wpAny (model prog w) A (pyIter (.ref l)) (fun it s₂ => LoopAtV prog w A h₀ env x body Q E it s₂) E s := by
  have z := N _ hl
  have hls : s.heap.IsList l items.toArray := ⟨_, z.1, rfl, k0, rfl⟩
  have hlt : l < s.heap.objs.size := Heap.lt_size z.1
  refine wpAny_pyIter_list hls ?_
  have W := Walks.list (prog := prog) (w := w) hh s.heap.objs.size l (Nat.ne_of_lt hlt) items.toArray
  rw [List.size_toArray] at W
  refine ⟨_, _, _, items.length, _, _, m₀, news, J, rfl, W, ?_, ?_, ?_, ⟨⟨_, Heap.get?_push_size _ rfl, rfl, rfl⟩, hls.at fun o e => Heap.get?_push_of_some _ e⟩, F.push _, (fun p hp => ⟨Heap.get?_push_of_some _ (N p hp).1, (N p hp).2⟩), hj, ?_, ?_⟩
  · intro hm
    rcases List.mem_cons.mp hm with e | hm
    · exact absurd F.ns.lt (e ▸ Nat.lt_irrefl _)
    · exact z.2.1 (List.mem_singleton.mp hm).symm
  · intro b hb
    rw [List.mem_singleton.mp hb]
    exact next_is_new F
  · intro p hp hI
    exact absurd (Heap.lt_size (N p hp).1) ((List.mem_singleton.mp hI) ▸ Nat.lt_irrefl _)
  · rintro i v m₁ news₁ s₁ own ⟨hh', tk', rfl⟩ hin hP hJ hoff hown _ hall hst F₁ N₁
    have hI : ∃ o, hh'.get? s.heap.objs.size = some o := let ⟨⟨o, ho, _⟩, _⟩ := hst; ⟨o, ho⟩
    obtain ⟨oI, hoI⟩ := hI
    refine turn i v m₁ news₁ hh' tk' own (by simpa using hP) hJ (fun p hp => ?_) ⟨oI, hall _ (by simp) (next_is_new F) oI hoI⟩ (fun p hp => ?_) F₁ N₁
    · have := hown p hp
      simpa using this
    · have := hoff p hp
      simpa using this
  · rintro h' tk m' news' F' N' _ hJ
    exact done m' news' h' tk hJ F' N'
/-- a loop over range(a, b) -/
theorem loop_range {r : Addr} {a₀ b₀ : Int} {t₀ u₀ v₀ : Tok} {n : Nat} {m₀ : Str → Option Value} {news : List (Addr × Obj)} (J : Nat → (Str → Option Value) → List (Addr × Obj) → Prop)
    (hh : A.handled = none) (hr : IsRange s.heap r a₀ b₀ 1 t₀ u₀ v₀) (hsmall : Builtin.Range.small a₀ b₀ 1 = true) (hn : Builtin.Range.rangeSize a₀ b₀ 1 = (n : Int)) (F : Fr h₀ env.locals s.heap m₀) (N : News h₀ env.locals s.heap news) (hj : J 0 m₀ news)
    (turn : ∀ (i : Nat) t m₁ news₁ h tk own, i < n → J i m₁ news₁ → (∀ p ∈ own, p.1 = s.heap.objs.size) → (∃ o x9 y9 z9, (s.heap.objs.size, o) ∈ own ∧ o.data = .fields #[rawInt x9, rawInt y9, rawInt z9]) → (∀ p ∈ news₁, p.1 ≠ s.heap.objs.size) → Fr h₀ env.locals h (fun y => if y = x then some (.int (a₀ + (i : Int)) t) else m₁ y) → News h₀ env.locals h (own ++ news₁) →
      wpAny (model prog w) A (execs body env) (LoopStepV h₀ env.locals [s.heap.objs.size] own (J (i + 1)) { s with heap := h, toks := tk } (fun v s' => Q (.ret v) s') fun s' => Q .next s') E { s with heap := h, toks := tk })
    (done : ∀ m₁ news₁ h tk, J n m₁ news₁ → Fr h₀ env.locals h m₁ → News h₀ env.locals h news₁ → Q .next { s with heap := h, toks := tk }) :
    wpAny (model prog w) A (pyIter (.ref r)) (fun it s₂ => LoopAtV prog w A h₀ env x body Q E it s₂) E s := by
  refine wpAny_pyIter_range hr hsmall ?_
  have W : Walks prog w A s.heap.objs.size [s.heap.objs.size] [s.heap.objs.size] n (fun i v => i < n ∧ ∃ t, v = .int (a₀ + i * 1) t)
      (fun i h => IsRangeIter h s.heap.objs.size (a₀ + (i : Nat) * 1) ((n : Int) - (i : Nat)) 1) := (Walks.range hh _ a₀ 1 n).bound
  refine ⟨_, _, _, n, _, _, m₀, news, J, rfl, W, ?_, ?_, ?_, (by show IsRangeIter _ _ _ _ _; rw [hn]; simpa using Heap.get?_push_size _ rfl), F.push _, (fun p hp => ⟨Heap.get?_push_of_some _ (N p hp).1, (N p hp).2⟩), hj, ?_, ?_⟩
  · intro hm
    exact absurd F.ns.lt ((List.mem_singleton.mp hm) ▸ Nat.lt_irrefl _)
  · intro b hb
    rw [List.mem_singleton.mp hb]
    exact next_is_new F
  · intro p hp hI
    exact absurd (Heap.lt_size (N p hp).1) ((List.mem_singleton.mp hI) ▸ Nat.lt_irrefl _)
  · rintro i v m₁ news₁ s₁ own ⟨hh', tk', rfl⟩ hin ⟨_, t, rfl⟩ hJ hoff hown _ hall hst F₁ N₁
    have e1 : a₀ + (i : Int) * 1 = a₀ + (i : Int) := by omega
    rw [e1] at F₁
    have hI : hh'.get? s.heap.objs.size = some _ := hst
    refine turn i t m₁ news₁ hh' tk' own hin hJ (fun p hp => by simpa using hown p hp) ⟨_, _, _, _, hall _ (by simp) (next_is_new F) _ hI, rfl⟩ (fun p hp => by simpa using hoff p hp) F₁ N₁
  · rintro h' tk m' news' F' N' _ hJ
    exact done m' news' h' tk hJ F' N'
end
end Mine
end
section
open PySem PySem.W PyProof.Rows PySem.Calls PySem.Spec
namespace Mine
theorem my_good {s₁ s' : Shared} {cw : ClaimW} {cl : Str → Option Addr} {mean : ExcName → Option Value} {args : List WData} {tabs : List (Addr × Addr)} (hT : TabsAt tabs s₁.heap) (hr : ∀ x, cw.raises args x = false) (hp : cw.post args (.bool true) args = true)
    (hk : ∀ b o, (ghostOf s₁.heap tabs).get? b = some o → s'.heap.get? b = some o) (hgr : GrownAll tabs s'.heap) (hos : s'.os = s₁.os) (hb : AllBare s'.gens) : GoodWG cw cl mean args s₁ (.ok (.ret (.bool true))) s' := by
  have keep : ∀ b o, b ∉ tabs.map (·.2) → s₁.heap.get? b = some o → s'.heap.get? b = some o := fun b o hb e => hk b o (ghost_ne e hb)
  have grown : ∀ b o, b ∈ tabs.map (·.2) → s₁.heap.get? b = some o → isCodeTable s₁.heap b ∧ o = tabObj #[] ∧ ∃ ps, s'.heap.get? b = some (tabObj ps) := fun b o hb e => by
    obtain ⟨q, hq, rfl⟩ := List.mem_map.mp hb
    have e2 := (hT q hq).2
    rw [e] at e2
    exact ⟨((hT q hq).1.tab (hT q hq).2).isCodeTable, Option.some.inj e2, hgr.get q hq⟩
  refine ⟨.inl ⟨_, _, [], rfl, hr, ReadsW.bool true, hp, fun _ => ⟨List.nodup_nil, fun _ hm => (nomatch hm)⟩⟩, ⟨fun b o e => ?_, fun b o e => ?_⟩, hos, hb⟩
  · by_cases hb : b ∈ tabs.map (·.2)
    · obtain ⟨ht, rfl, ps, hP⟩ := grown b o hb e
      exact .inr (.inl ⟨ht, rfl, #[], ps, rfl, by rw [Array.empty_append]; exact hP⟩)
    · exact .inl (keep b o hb e)
  · by_cases hb : b ∈ tabs.map (·.2)
    · obtain ⟨_, _, ps, hP⟩ := grown b o hb e
      exact ⟨_, hP⟩
    · exact ⟨o, keep b o hb e⟩
theorem cut {M : Model} {A : Around} {env : Env} {st : Stmt} {rest : List Stmt} {Q : Flow → Shared → Prop} {E : Value → Shared → Prop} {s : Shared} (P : Shared → Prop)
    (h1 : wpAny M A (exec st env) (fun f s' => f = .next ∧ P s') (fun _ _ => False) s) (h2 : ∀ s', P s' → wpAny M A (execs rest env) Q E s') : wpAny M A (execs (st :: rest) env) Q E s := by
  refine wpAny_execs_cons (wpAny_mono h1 (fun f s' hf => ?_) fun _ _ x => x.elim)
  obtain ⟨rfl, hp⟩ := hf
  exact h2 s' hp
theorem fr_pack {h₀ h : Heap} {L : Addr} {m : Str → Option Value} {ps : List (Str × Value)} (F : Fr h₀ L h m) (h1 : ∀ p ∈ ps, m p.1 = some p.2) : Fr h₀ L h (kstB m ps) := by
  have em : kstB m ps = m := by
    funext y
    exact kstB_eq h1 fun _ => rfl
  rw [em]; exact F
end Mine
end
section
open PySem PySem.W PyProof.Rows PySem.Calls PySem.Spec
namespace Mine
def FinP (h₀ : Heap) (L : Addr) (s₁ : Shared) : Flow → Shared → Prop := fun f s' => ∃ ps m news, f = .ret (.bool true) ∧ Fr h₀ L s'.heap m ∧ News h₀ L s'.heap ((94, tabObj ps) :: news) ∧ s'.os = s₁.os ∧ AllBare s'.gens
/-- the state at a cut -/
structure St (h₀ : Heap) (L : Addr) (s₁ : Shared) (ps : List (Str × Value)) (news : List (Addr × Obj)) (s : Shared) : Prop where
  fr : ∃ u, Fr h₀ L s.heap (kstB u ps)
  nw : News h₀ L s.heap news
  os : s.os = s₁.os
  br : AllBare s.gens
def DrawnOk (ds : List Int) : Prop := (ds.length = 3 ∨ ds.length = 4) ∧ ∀ y ∈ ds, 0 ≤ y ∧ y < 1000000
def P1 (h₀ : Heap) (L : Addr) (s₁ : Shared) (s : Shared) : Prop := ∃ (D : Addr) (items : List Value) (k : Nat) (ds : List Int), 94 ≠ D ∧ items.length ≤ 4 ∧ IntsAre items ds ∧ (ds.length ≤ 4 ∧ ∀ y ∈ ds, 0 ≤ y ∧ y < 1000000) ∧ St h₀ L s₁ [(Str.ofString "drawn", .ref D)] [(D, listOf items.toArray k), (94, tabObj #[])] s
def P2 (h₀ : Heap) (L : Addr) (s₁ : Shared) (s : Shared) : Prop := ∃ (D : Addr) (items : List Value) (k : Nat) (ds : List Int), 94 ≠ D ∧ IntsAre items ds ∧ DrawnOk ds ∧ St h₀ L s₁ [(Str.ofString "drawn", .ref D)] [(D, listOf items.toArray k), (94, tabObj #[])] s
theorem news_pick {h₀ h : Heap} {L : Addr} {a b : List (Addr × Obj)} (N : News h₀ L h b) (hs : ∀ q ∈ a, q ∈ b) : News h₀ L h a := fun p hp => N p (hs p hp)
theorem pick_tail (t1 t2 t3 : Tok) (n : Nat) (hn : n ≤ 4) : IntsAre (kms_pick [.int 50 t1, .int 57 t2, .int 36 t3] (some (n : Int)) none) (([50, 57, 36] : List Int).drop n) := by
  match n, hn with
  | 0, _ => exact .cons _ _ (.cons _ _ (.cons _ _ .nil))
  | 1, _ => exact .cons _ _ (.cons _ _ .nil)
  | 2, _ => exact .cons _ _ .nil
  | 3, _ => exact .nil
  | 4, _ => exact .nil
theorem drawn_ok {ds : List Int} (h1 : ds.length ≤ 4) (h2 : ∀ y ∈ ds, 0 ≤ y ∧ y < 1000000) : DrawnOk (ds ++ ([50, 57, 36] : List Int).drop ds.length) := by
  refine ⟨?_, fun y hy => ?_⟩
  · rw [List.length_append, List.length_drop]; simp; omega
  · rcases List.mem_append.mp hy with h | h
    · exact h2 y h
    · have := List.mem_of_mem_drop h
      simp at this
      rcases this with rfl | rfl | rfl <;> decide
theorem isList_of {h₀ h : Heap} {L : Addr} {news : List (Addr × Obj)} (N : News h₀ L h news) {l : Addr} {items : List Value} {k : Nat} (hm : (l, listOf items.toArray k) ∈ news) : h.IsList l items.toArray := ⟨_, (N _ hm).1, rfl, k, rfl⟩
section
variable {prog : Program} {w : World} {A : Around} {E : Value → Shared → Prop} {s : Shared} {h₀ : Heap} {L : Addr} {m : Str → Option Value} {news : List (Addr × Obj)}
theorem tail_ops {value slice : PySem.Expr} {o i : Value} {T id : String} {ops : List Value} {Q : Value → Shared → Prop} (hT : s.TypeIs o T)
    (hl : typeLookup (.type T) "__getitem__" = pure (some (.builtin id))) (h : wpAny (model prog w) A (getItem o i) Q E s)
    (hs : subscripted slice false o i = operate ops (getItem o i)) :
    wpAny (model prog w) A (subscriptTail value slice o i) Q E s := by
  unfold subscriptTail
  refine wpAny_bind ?_
  rw [getitemInPython_of_ne hT.not_modules]
  refine wpAny_bind (wpAny_specialOf hT hl ?_)
  have fin : wpAny (model prog w) A (subscripted slice false o i) (fun r s₃ => wpAny (model prog w) A (letTemporaryGo value o r >>= fun _ => pure r) Q E s₃) E s := by
    rw [hs]
    exact wpAny_operating (wpAny_mono h (fun r s₃ h₃ => wpAny_bind (wpAny_letTemporaryGo (wpAny_pure h₃))) fun _ _ x => x)
  first
    | exact wpAny_pure (wpAny_bind fin)
    | exact wpAny_bind (wpAny_pure (wpAny_bind fin))
    | exact wpAny_bind fin
/-- a slice of a list that goes with it -/
theorem slice_gone {value slice : PySem.Expr} {l : Addr} {items : Array Value} {vl vu : Value} {lo hi : Option Int} {zs : List Value} {Q : Value → Shared → Prop}
    (F : Fr h₀ L s.heap m) (N : News h₀ L s.heap news) (hl : s.heap.IsList l items) (pl : IsPart vl lo) (pu : IsPart vu hi) (e : kms_pick items.toList lo hi = zs)
    (h : ∀ D h', Fr h₀ L h' m → News h₀ L h' ((D, listOf zs.toArray 0) :: news) → (∀ p ∈ news, p.1 < D) → Q (.ref D) { s with heap := h' })
    (hs : subscripted slice false (.ref l) (.ref s.heap.objs.size) = operate [.ref s.heap.objs.size, .ref l] (getItem (.ref l) (.ref s.heap.objs.size)))
    (hsz : items.size ≤ sizeLine) :
    wpAny (model prog w) A (subscriptTail value slice (.ref l) (.ref s.heap.objs.size)) Q E { s with heap := s.heap.push { cls := .type "slice", data := .fields #[vl, vu, .none] } } := by
  refine tail_ops (Heap.IsList.typeIs (s := { s with heap := s.heap.push { cls := .type "slice", data := .fields #[vl, vu, .none] } }) (hl.push _)) list_getitem_lookup
    (wpAny_getItem_list_slice (hl.push _) (Heap.IsSliceOf.new ..) pl pu .none (by simp) ?_ hsz) hs
  have N1 := News.push (F.push { cls := .type "slice", data := .fields #[vl, vu, .none] }) (N.grown fun _ _ e => Heap.get?_push_of_some _ e) { cls := .type "list", data := .seq (slicePick items lo hi none) }
  rw [Heap.size_push] at N1
  show Q (.ref (s.heap.push _).objs.size) _
  rw [Heap.size_push]
  refine h _ _ ((F.push _).push _) ?_ (fun p hp => Nat.lt_succ_of_lt (Heap.lt_size (N p hp).1))
  rw [← e, ← kms_pick_eq]
  exact N1
end
end Mine
end
section
open PySem PySem.W PyProof.Rows PySem.Calls PySem.Spec
namespace Mine
theorem cutS {M : Model} {A : Around} {t : Sem Flow} {Q : Flow → Shared → Prop} {E : Value → Shared → Prop} {s : Shared} (P : Shared → Prop)
    (h1 : wpAny M A t (fun f s' => f = .next ∧ P s') (fun _ _ => False) s) (h2 : ∀ s', P s' → Q .next s') : wpAny M A t Q E s := by
  refine wpAny_mono h1 (fun f s' hf => ?_) fun _ _ x => x.elim
  obtain ⟨rfl, hp⟩ := hf
  exact h2 s' hp
/-- a rod: its width and its height -/
abbrev Rod := Int × Int
def rodOf (y : Int) : Rod := (1 + (y.fdiv 3).fmod 3, (y.fdiv 9).fmod 5 - y.fmod 3)
def RodOk (p : Rod) : Prop := (1 ≤ p.1 ∧ p.1 ≤ 3) ∧ (-2 ≤ p.2 ∧ p.2 ≤ 4)
def Row3.rod (r : Row3) : Rod := (r.w, r.h)
def IsPair (h : List (Addr × Obj)) (v : Value) (p : Rod) : Prop := ∃ a n t1 t2, v = .ref a ∧ (a, tupO [.int p.1 t1, .int p.2 t2] n) ∈ h
structure Chains (rods : List Rod) (lrows urows : List Row3) : Prop where
  ok : ∀ p ∈ rods, RodOk p
  lt : ∀ r ∈ lrows, r.t = turnT r.w r.h
  ut : ∀ r ∈ urows, r.t = -turnT r.w r.h
  lp : (lrows.map Row3.rod).Perm rods
  up : (urows.map Row3.rod).Perm rods
  ls : lrows.Pairwise (fun a b => a.t ≤ b.t)
  us : urows.Pairwise (fun a b => a.t ≤ b.t)
def SteepIs (tups : List (Addr × Obj)) (sv : Value) (lrows : List Row3) : Prop :=
  (lrows = [] ∧ sv = .none) ∨ ∃ l, lrows.getLast? = some l ∧ IsRow tups sv ⟨-l.t, l.w, l.h⟩
inductive PairsAre (h : List (Addr × Obj)) : List Value → List Rod → Prop
  | nil : PairsAre h [] []
  | cons {v r vs rs} : IsPair h v r → PairsAre h vs rs → PairsAre h (v :: vs) (r :: rs)
abbrev sDrawn : Str := Str.ofString "drawn"
abbrev sRods : Str := Str.ofString "rods"
abbrev sLower : Str := Str.ofString "lower"
abbrev sUpper : Str := Str.ofString "upper"
abbrev sSteep : Str := Str.ofString "steep"
/-- the objects of the law's first loop -/
structure Objs (D R Lo Up : Addr) (items : List Value) (k : Nat) (ds : List Int) (rods : List Rod) (lrows urows : List Row3) (rvs lvs uvs : List Value) (sv : Value) (tups : List (Addr × Obj)) : Prop where
  inD : IntsAre items ds
  okd : DrawnOk ds
  n1 : 94 ≠ D
  n2 : D ≠ R
  n3 : D ≠ Lo
  n4 : D ≠ Up
  n5 : R ≠ Lo
  n6 : R ≠ Up
  n7 : Lo ≠ Up
  n8 : 94 ≠ R
  n9 : 94 ≠ Lo
  n10 : 94 ≠ Up
  tR : ∀ q ∈ tups, q.1 ≠ R
  tL : ∀ q ∈ tups, q.1 ≠ Lo
  tU : ∀ q ∈ tups, q.1 ≠ Up
  t94 : ∀ q ∈ tups, q.1 ≠ 94
  prs : PairsAre tups rvs rods
  lrw : RowsAre tups lvs lrows
  urw : RowsAre tups uvs urows
  ch : Chains rods lrows urows
  st : SteepIs tups sv lrows
def J4 (D R Lo Up : Addr) (items : List Value) (k : Nat) (ds : List Int) (i : Nat) (m : Str → Option Value) (news : List (Addr × Obj)) : Prop :=
  ∃ u lrows urows rvs lvs uvs sv tups nr nl nu, Objs D R Lo Up items k ds ((ds.take i).map rodOf) lrows urows rvs lvs uvs sv tups ∧
    m = kstB u [(sDrawn, .ref D), (sRods, .ref R), (sLower, .ref Lo), (sUpper, .ref Up), (sSteep, sv)] ∧
    news = (94, tabObj #[]) :: (D, listOf items.toArray k) :: (R, listOf rvs.toArray nr) :: (Lo, listOf lvs.toArray nl) :: (Up, listOf uvs.toArray nu) :: tups
def P4 (h₀ : Heap) (L : Addr) (s₁ : Shared) (s : Shared) : Prop :=
  ∃ D R Lo Up items k ds m news, J4 D R Lo Up items k ds ds.length m news ∧ Fr h₀ L s.heap m ∧ News h₀ L s.heap news ∧ s.os = s₁.os ∧ AllBare s.gens
section
variable {prog : Program} {w : World} {A : Around} {E : Value → Shared → Prop} {s : Shared}
theorem div8 {n : Int} {t u : Tok} {Q : Value → Shared → Prop} (hn : Float64.isInf (divB n) = false) (h : Q (.float (divB n) s.toks) { s with toks := s.toks + 1 }) : wpAny (model prog w) A (binaryOp .Div (.int n t) (.int 8 u)) Q E s :=
  PySem.AutoIntOps.truediv_2 (by decide) (fun q => by unfold divB at hn; rw [hn] at q; cases q) h
end
theorem rod_blue (y : Int) : 0 ≤ y.fmod 3 ∧ y.fmod 3 < 3 := ⟨Int.fmod_nonneg_of_pos _ (by decide), Int.fmod_lt_of_pos _ (by decide)⟩
theorem rod_hue (y : Int) : HueOk (y.fmod 3 + 1 + (y.fdiv 3).fmod 3) ((y.fdiv 9).fmod 5) (y.fmod 3) := by
  have h1 := rod_blue y
  have h2 : 0 ≤ (y.fdiv 3).fmod 3 ∧ (y.fdiv 3).fmod 3 < 3 := ⟨Int.fmod_nonneg_of_pos _ (by decide), Int.fmod_lt_of_pos _ (by decide)⟩
  have h3 : 0 ≤ (y.fdiv 9).fmod 5 ∧ (y.fdiv 9).fmod 5 < 5 := ⟨Int.fmod_nonneg_of_pos _ (by decide), Int.fmod_lt_of_pos _ (by decide)⟩
  exact hue_ok h1.1 h1.2 (by omega) (by omega) h3.1 h3.2
theorem rod_ok (y : Int) : RodOk (rodOf y) := by
  have h1 := rod_blue y
  have h2 : 0 ≤ (y.fdiv 3).fmod 3 ∧ (y.fdiv 3).fmod 3 < 3 := ⟨Int.fmod_nonneg_of_pos _ (by decide), Int.fmod_lt_of_pos _ (by decide)⟩
  have h3 : 0 ≤ (y.fdiv 9).fmod 5 ∧ (y.fdiv 9).fmod 5 < 5 := ⟨Int.fmod_nonneg_of_pos _ (by decide), Int.fmod_lt_of_pos _ (by decide)⟩
  unfold RodOk rodOf
  dsimp only
  omega
theorem rod_eq (y : Int) : (y.fmod 3 + 1 + (y.fdiv 3).fmod 3 - y.fmod 3, (y.fdiv 9).fmod 5 - y.fmod 3) = rodOf y := by
  unfold rodOf
  rw [show y.fmod 3 + 1 + (y.fdiv 3).fmod 3 - y.fmod 3 = 1 + (y.fdiv 3).fmod 3 by omega]
end Mine
end
section
open PySem PySem.W PyProof.Rows PySem.Calls PySem.Spec
namespace Mine
theorem Gives.more {w : World} {d : Nat} {need need' : List (Addr × Obj)} {f : Value} {args : List Value} {kw : List (Str × Value)} {R : Tok → Value} (g : Gives w d need f args kw R) (h : ∀ q ∈ need, q ∈ need') : Gives w d need' f args kw R := by
  intro p loose mean mg mb dp un gd cn cs a ccd cl outer A₀ base h₀ L m news s Q E B F X N T hk hn hd hu hret
  exact g p loose mean mg mb dp un gd cn cs a ccd cl outer A₀ base h₀ L m news s Q E B F X N T hk (fun q hq => hn q (h q hq)) hd hu hret
theorem fnAt_of {K : Frag} {h : Heap} {q : Addr} {oc : Value} {od : Option Addr} {fd : FuncData} {sl : Array (Option Value)} (X : K.In h) (e : K.lookup q = some ⟨oc, od, .func fd, sl⟩) : FnAt q h := ⟨oc, od, fd, sl, X _ _ e⟩
theorem fn78 (w : World) (need : List (Addr × Obj)) : FnOk w need 78 := by
  unfold FnOk KK
  intro h₀ L h news X N hn
  exact fnAt_of X rfl
theorem row_key (w : World) {tl : List (Addr × Obj)} {v : Value} {r : Row3} (h : IsRow tl v r) : Gives w 1 tl (.ref 78) [v] [] (fun t => .int r.t t) := by
  obtain ⟨a, n, t1, t2, t3, rfl, hm⟩ := h
  exact (first_ok w a r.t t1 _ _ n).more fun q hq => by cases List.mem_singleton.mp hq; exact hm
theorem rows_key (w : World) {tl : List (Addr × Obj)} {vs : List Value} {rs : List Row3} (h : RowsAre tl vs rs) : KeyOk w tl 78 vs (rs.map (·.t)) := by
  intro i v k hv hk
  rw [List.getElem?_map] at hk
  cases hr : rs[i]? with
  | none => rw [hr] at hk; cases hk
  | some r =>
    rw [hr] at hk
    obtain ⟨v', hv', hrow⟩ := h.get i r hr
    rw [hv] at hv'
    cases hv'
    cases hk
    exact row_key w hrow
theorem split_at (p : Int → Prop) [DecidablePred p] : ∀ (ks : List Int), ks.Pairwise (fun a b => p b → p a) → ∃ r, r ≤ ks.length ∧ (∀ (i : Nat) k, ks[i]? = some k → i < r → p k) ∧ (∀ (i : Nat) k, ks[i]? = some k → r ≤ i → ¬ p k)
  | [], _ => ⟨0, Nat.le_refl _, fun i k e => by simp at e, fun i k e => by simp at e⟩
  | x :: ks, h => by
    rw [List.pairwise_cons] at h
    by_cases hx : p x
    · obtain ⟨r, h1, h2, h3⟩ := split_at p ks h.2
      refine ⟨r + 1, by simp; omega, fun i k e hi => ?_, fun i k e hi => ?_⟩
      · cases i with
        | zero => simp at e; exact e ▸ hx
        | succ i => exact h2 i k (by simpa using e) (by omega)
      · cases i with
        | zero => omega
        | succ i => exact h3 i k (by simpa using e) (by omega)
    · refine ⟨0, Nat.zero_le _, fun i k e hi => by omega, fun i k e _ => ?_⟩
      cases i with
      | zero => simp at e; exact e ▸ hx
      | succ i =>
        intro hk
        exact hx (h.1 k (List.mem_of_getElem? (by simpa using e)) hk)
def insAt {α : Type} (r : Nat) (x : α) (l : List α) : List α := l.take r ++ x :: l.drop r
theorem ins_perm {α : Type} (r : Nat) (x : α) (l : List α) : (insAt r x l).Perm (x :: l) := by
  unfold insAt
  have := List.perm_middle (a := x) (l₁ := l.take r) (l₂ := l.drop r)
  rwa [List.take_append_drop] at this
theorem ins_sorted {rows : List Row3} (hs : rows.Pairwise (fun a b => a.t ≤ b.t)) {new : Row3} {r : Nat} (h1 : ∀ a ∈ rows.take r, a.t ≤ new.t) (h2 : ∀ a ∈ rows.drop r, new.t ≤ a.t) : (insAt r new rows).Pairwise (fun a b => a.t ≤ b.t) := by
  unfold insAt
  rw [List.pairwise_append, List.pairwise_cons]
  refine ⟨hs.sublist (List.take_sublist _ _), ⟨h2, hs.sublist (List.drop_sublist _ _)⟩, fun a ha b hb => ?_⟩
  rcases List.mem_cons.mp hb with rfl | hb
  · exact h1 a ha
  · exact Int.le_trans (h1 a ha) (h2 b hb)
theorem RowsAre.drop {h : List (Addr × Obj)} {vs : List Value} {rs : List Row3} (x : RowsAre h vs rs) : ∀ n, RowsAre h (vs.drop n) (rs.drop n) := by
  induction x with
  | nil => intro n; simp; exact .nil
  | cons a b ih =>
    intro n
    cases n with
    | zero => exact .cons a b
    | succ n => exact ih n
theorem RowsAre.append {h : List (Addr × Obj)} {vs vs' : List Value} {rs rs' : List Row3} (x : RowsAre h vs rs) (y : RowsAre h vs' rs') : RowsAre h (vs ++ vs') (rs ++ rs') := by
  induction x with
  | nil => exact y
  | cons a _ ih => exact .cons a ih
theorem RowsAre.ins {h : List (Addr × Obj)} {vs : List Value} {rs : List Row3} (x : RowsAre h vs rs) (r : Nat) {v : Value} {new : Row3} (hv : IsRow h v new) : RowsAre h (vs.take r ++ v :: vs.drop r) (insAt r new rs) :=
  (x.take r).append (.cons hv (x.drop r))
theorem PairsAre.keeps {h h' : List (Addr × Obj)} {vs : List Value} {rs : List Rod} (x : PairsAre h vs rs) (k : ∀ q ∈ h, q ∈ h') : PairsAre h' vs rs := by
  induction x with
  | nil => exact .nil
  | cons a _ ih => exact .cons (let ⟨a, n, t1, t2, e, q⟩ := a; ⟨a, n, t1, t2, e, k _ q⟩) ih
theorem PairsAre.append {h : List (Addr × Obj)} {vs vs' : List Value} {rs rs' : List Rod} (x : PairsAre h vs rs) (y : PairsAre h vs' rs') : PairsAre h (vs ++ vs') (rs ++ rs') := by
  induction x with
  | nil => exact y
  | cons a _ ih => exact .cons a ih
theorem PairsAre.length {h : List (Addr × Obj)} {vs : List Value} {rs : List Rod} (x : PairsAre h vs rs) : vs.length = rs.length := by
  induction x with
  | nil => rfl
  | cons _ _ ih => simp [ih]
theorem sorted_keys {rows : List Row3} (hs : rows.Pairwise (fun a b => a.t ≤ b.t)) (x : Int) : (rows.map (·.t)).Pairwise (fun a b => b ≤ x → a ≤ x) ∧ (rows.map (·.t)).Pairwise (fun a b => b < x → a < x) := by
  constructor
  · rw [List.pairwise_map]; exact hs.imp fun h k => Int.le_trans h k
  · rw [List.pairwise_map]; exact hs.imp fun h k => Int.lt_of_le_of_lt h k
theorem mem_take_key {rows : List Row3} {r : Nat} {a : Row3} (ha : a ∈ rows.take r) : ∃ i, i < r ∧ (rows.map (·.t))[i]? = some a.t := by
  obtain ⟨i, hi⟩ := List.mem_iff_getElem?.mp ha
  rw [List.getElem?_take] at hi
  split at hi
  · exact ⟨i, by assumption, by rw [List.getElem?_map, hi]; rfl⟩
  · cases hi
theorem mem_drop_key {rows : List Row3} {r : Nat} {a : Row3} (ha : a ∈ rows.drop r) : ∃ i, r ≤ i ∧ (rows.map (·.t))[i]? = some a.t := by
  obtain ⟨i, hi⟩ := List.mem_iff_getElem?.mp ha
  rw [List.getElem?_drop] at hi
  exact ⟨r + i, by omega, by rw [List.getElem?_map, hi]; rfl⟩
/-- the place at which insort_right lays a row -/
theorem place_r {rows : List Row3} (hs : rows.Pairwise (fun a b => a.t ≤ b.t)) (x : Int) : ∃ r, r ≤ (rows.map (·.t)).length ∧ (∀ (i : Nat) k, (rows.map (·.t))[i]? = some k → i < r → k ≤ x) ∧ (∀ (i : Nat) k, (rows.map (·.t))[i]? = some k → r ≤ i → x < k) := by
  obtain ⟨r, h1, h2, h3⟩ := split_at (fun k => k ≤ x) _ (sorted_keys hs x).1
  exact ⟨r, h1, h2, fun i k e hi => by have := h3 i k e hi; omega⟩
theorem place_l {rows : List Row3} (hs : rows.Pairwise (fun a b => a.t ≤ b.t)) (x : Int) : ∃ r, r ≤ (rows.map (·.t)).length ∧ (∀ (i : Nat) k, (rows.map (·.t))[i]? = some k → i < r → k < x) ∧ (∀ (i : Nat) k, (rows.map (·.t))[i]? = some k → r ≤ i → x ≤ k) := by
  obtain ⟨r, h1, h2, h3⟩ := split_at (fun k => k < x) _ (sorted_keys hs x).2
  exact ⟨r, h1, h2, fun i k e hi => by have := h3 i k e hi; omega⟩
/-- one rod more -/
theorem Chains.more {rods : List Rod} {lrows urows : List Row3} (C : Chains rods lrows urows) {w h : Int} (ok : RodOk (w, h)) {rl ru : Nat}
    (l1 : ∀ (i : Nat) k, (lrows.map (·.t))[i]? = some k → i < rl → k ≤ turnT w h) (l2 : ∀ (i : Nat) k, (lrows.map (·.t))[i]? = some k → rl ≤ i → turnT w h < k)
    (u1 : ∀ (i : Nat) k, (urows.map (·.t))[i]? = some k → i < ru → k < -turnT w h) (u2 : ∀ (i : Nat) k, (urows.map (·.t))[i]? = some k → ru ≤ i → -turnT w h ≤ k) :
    Chains (rods ++ [(w, h)]) (insAt rl ⟨turnT w h, w, h⟩ lrows) (insAt ru ⟨-turnT w h, w, h⟩ urows) where
  ok := fun p hp => by
    rcases List.mem_append.mp hp with hp | hp
    · exact C.ok p hp
    · rw [List.mem_singleton.mp hp]; exact ok
  lt := fun r hr => by
    rcases List.mem_cons.mp ((ins_perm _ _ _).mem_iff.mp hr) with rfl | hr
    · rfl
    · exact C.lt r hr
  ut := fun r hr => by
    rcases List.mem_cons.mp ((ins_perm _ _ _).mem_iff.mp hr) with rfl | hr
    · rfl
    · exact C.ut r hr
  lp := ((ins_perm _ _ _).map _).trans ((List.Perm.cons _ C.lp).trans (List.perm_append_singleton _ _).symm)
  up := ((ins_perm _ _ _).map _).trans ((List.Perm.cons _ C.up).trans (List.perm_append_singleton _ _).symm)
  ls := ins_sorted C.ls (fun a ha => let ⟨i, hi, e⟩ := mem_take_key ha; l1 i _ e hi) (fun a ha => let ⟨i, hi, e⟩ := mem_drop_key ha; Int.le_of_lt (l2 i _ e hi))
  us := ins_sorted C.us (fun a ha => let ⟨i, hi, e⟩ := mem_take_key ha; Int.le_of_lt (u1 i _ e hi)) (fun a ha => let ⟨i, hi, e⟩ := mem_drop_key ha; u2 i _ e hi)
theorem last_end {rows : List Row3} {new : Row3} {r : Nat} (h : rows.length ≤ r) : (insAt r new rows).getLast? = some new := by
  unfold insAt
  rw [List.drop_eq_nil_of_le h]
  simp
theorem last_in {rows : List Row3} {new : Row3} {r : Nat} (h : r < rows.length) : (insAt r new rows).getLast? = rows.getLast? := by
  unfold insAt
  have e : rows.drop r ≠ [] := fun q => by have := congrArg List.length q; simp at this; omega
  rw [List.getLast?_append, List.getLast?_cons]
  have e2 : (rows.drop r).getLast? = rows.getLast? := by
    rw [List.getLast?_drop]
    simp [Nat.not_le.mpr h]
  rw [e2]
  cases hl : rows.getLast? with
  | none => rw [List.getLast?_eq_none_iff] at hl; rw [hl] at h; simp at h
  | some a => simp
theorem last_key {rows : List Row3} {l : Row3} (h : rows.getLast? = some l) : (rows.map (·.t))[rows.length - 1]? = some l.t ∧ 0 < rows.length := by
  rw [List.getLast?_eq_getElem?] at h
  refine ⟨by rw [List.getElem?_map, h]; rfl, ?_⟩
  have := (List.getElem?_eq_some_iff.mp h).1
  omega
theorem news_roll {h₀ h : Heap} {L : Addr} {x b c d r1 r2 r3 r4 r5 : Addr × Obj} {tl : List (Addr × Obj)} (N : News h₀ L h (x :: b :: c :: d :: r1 :: r2 :: r3 :: r4 :: r5 :: tl)) : News h₀ L h (r1 :: r2 :: r3 :: r4 :: r5 :: x :: tl) := news_pick N (by
  intro q hq
  simp only [List.mem_cons] at hq ⊢
  rcases hq with h | h | h | h | h | h | h <;> simp [h])
/-- the second thing ahead, what is new behind the five -/
theorem news_roll2 {h₀ h : Heap} {L : Addr} {x r1 r2 r3 r4 r5 : Addr × Obj} {tl : List (Addr × Obj)} (N : News h₀ L h (x :: r1 :: r2 :: r3 :: r4 :: r5 :: tl)) : News h₀ L h (r2 :: r1 :: r3 :: r4 :: r5 :: x :: tl) := news_pick N (by
  intro q hq
  simp only [List.mem_cons] at hq ⊢
  rcases hq with h | h | h | h | h | h | h <;> simp [h])
theorem news_roll3 {h₀ h : Heap} {L : Addr} {x r1 r2 r3 r4 r5 : Addr × Obj} {tl : List (Addr × Obj)} (N : News h₀ L h (x :: r1 :: r2 :: r3 :: r4 :: r5 :: tl)) : News h₀ L h (r3 :: r1 :: r2 :: r4 :: r5 :: x :: tl) := news_pick N (by
  intro q hq
  simp only [List.mem_cons] at hq ⊢
  rcases hq with h | h | h | h | h | h | h <;> simp [h])
theorem all5 {P : Addr × Obj → Prop} {r2 r3 r4 r5 x : Addr × Obj} {tl : List (Addr × Obj)} (h2 : P r2) (h3 : P r3) (h4 : P r4) (h5 : P r5) (hx : P x) (ht : ∀ q ∈ tl, P q) : ∀ q ∈ (r2 :: r3 :: r4 :: r5 :: x :: tl), P q := by
  intro q hq
  simp only [List.mem_cons] at hq
  rcases hq with h | h | h | h | h | h
  · exact h ▸ h2
  · exact h ▸ h3
  · exact h ▸ h4
  · exact h ▸ h5
  · exact h ▸ hx
  · exact ht q h
theorem lt_ne {a b : Nat} (h : a < b) : b ≠ a := Nat.ne_of_gt h
/-- lay a row into a chain -/
theorem lay_r (w : World) {p : Program} {loose : List Str} {mean : ExcName → Option Value} {mg mb : Str → Option Value} {dp un : Nat} {gd : Option (List Code)} {cn : Str} {cs : Scope} {a : Addr} {ccd : Value} {cl : List (Str × Addr)} {outer : List Env} {A₀ : Around} {base h₀ : Heap} {L : Addr} {m : Str → Option Value} {s : Shared} {Q E : Value → Shared → Prop}
    {ra l : Addr} {n nl : Nat} {t W H : Int} {t1 t2 t3 : Tok} {lvs : List Value} {tl rest : List (Addr × Obj)} {rows : List Row3} {r : Nat}
    (N : News h₀ L s.heap ((l, listOf lvs.toArray nl) :: rest)) (hra : (ra, tupO [.int t t1, .int W t2, .int H t3] n) ∈ rest) (htl : ∀ q ∈ tl, q ∈ rest) (F : Fr h₀ L s.heap m) (B : Below A₀ base outer h₀) (X : (KK w).In h₀) (T : Top p loose mean mg mb h₀) (hk : cs.kind = .function)
    (R : RowsAre tl lvs rows) (hlen : rows.length < 1000000) (hr : r ≤ (rows.map (·.t)).length) (hr1 : ∀ (i : Nat) k, (rows.map (·.t))[i]? = some k → i < r → k ≤ t) (hr2 : ∀ (i : Nat) k, (rows.map (·.t))[i]? = some k → r ≤ i → t < k)
    (hne : ∀ q ∈ rest, q.1 ≠ l) (hd : dp + 3 < recursionLimit) (hu : un + 12 * 3 < cLine)
    (hret : ∀ (h' : Heap) (tk' : Nat), Fr h₀ L h' m → News h₀ L h' ((l, listOf (lvs.take r ++ .ref ra :: lvs.drop r).toArray (nl + 1)) :: rest) → Q .none { s with heap := h', toks := tk' }) :
    wpAny (model PR w) (ktrTop dp un gd cn cs L a ccd cl outer) (call (.ref 30) [.ref l, .ref ra] [(Str.ofString "key", .ref 78)]) Q E s :=
  ins_r w l 78 ra lvs nl (rows.map (·.t)) t rest r (by rw [List.length_map]; exact R.length) (by rw [List.length_map]; exact hlen) (fn78 w _) (rows_key w (R.keeps htl)) (row_key w (r := ⟨t, W, H⟩) ⟨ra, n, t1, t2, t3, rfl, hra⟩) hr hr1 hr2
    _ _ _ _ _ _ _ _ _ _ _ _ _ _ _ _ _ _ _ _ _ _ _ B F X N hne T hk (fun q hq => hq) hd hu hret
/-- lay a row into a chain -/
theorem lay_l (w : World) {p : Program} {loose : List Str} {mean : ExcName → Option Value} {mg mb : Str → Option Value} {dp un : Nat} {gd : Option (List Code)} {cn : Str} {cs : Scope} {a : Addr} {ccd : Value} {cl : List (Str × Addr)} {outer : List Env} {A₀ : Around} {base h₀ : Heap} {L : Addr} {m : Str → Option Value} {s : Shared} {Q E : Value → Shared → Prop}
    {ra l : Addr} {n nl : Nat} {t W H : Int} {t1 t2 t3 : Tok} {lvs : List Value} {tl rest : List (Addr × Obj)} {rows : List Row3} {r : Nat}
    (N : News h₀ L s.heap ((l, listOf lvs.toArray nl) :: rest)) (hra : (ra, tupO [.int t t1, .int W t2, .int H t3] n) ∈ rest) (htl : ∀ q ∈ tl, q ∈ rest) (F : Fr h₀ L s.heap m) (B : Below A₀ base outer h₀) (X : (KK w).In h₀) (T : Top p loose mean mg mb h₀) (hk : cs.kind = .function)
    (R : RowsAre tl lvs rows) (hlen : rows.length < 1000000) (hr : r ≤ (rows.map (·.t)).length) (hr1 : ∀ (i : Nat) k, (rows.map (·.t))[i]? = some k → i < r → k < t) (hr2 : ∀ (i : Nat) k, (rows.map (·.t))[i]? = some k → r ≤ i → t ≤ k)
    (hne : ∀ q ∈ rest, q.1 ≠ l) (hd : dp + 3 < recursionLimit) (hu : un + 12 * 3 < cLine)
    (hret : ∀ (h' : Heap) (tk' : Nat), Fr h₀ L h' m → News h₀ L h' ((l, listOf (lvs.take r ++ .ref ra :: lvs.drop r).toArray (nl + 1)) :: rest) → Q .none { s with heap := h', toks := tk' }) :
    wpAny (model PR w) (ktrTop dp un gd cn cs L a ccd cl outer) (call (.ref 48) [.ref l, .ref ra] [(Str.ofString "key", .ref 78)]) Q E s :=
  ins_l w l 78 ra lvs nl (rows.map (·.t)) t rest r (by rw [List.length_map]; exact R.length) (by rw [List.length_map]; exact hlen) (fn78 w _) (rows_key w (R.keeps htl)) (row_key w (r := ⟨t, W, H⟩) ⟨ra, n, t1, t2, t3, rfl, hra⟩) hr hr1 hr2
    _ _ _ _ _ _ _ _ _ _ _ _ _ _ _ _ _ _ _ _ _ _ _ B F X N hne T hk (fun q hq => hq) hd hu hret
end Mine
end
section
open PySem PySem.W PyProof.Rows PySem.Calls PySem.Spec
namespace Mine
theorem Objs.next {D R Lo Up : Addr} {items : List Value} {k : Nat} {ds : List Int} {rods : List Rod} {lrows urows : List Row3} {rvs lvs uvs : List Value} {sv sv' : Value} {tups extra : List (Addr × Obj)} {W H : Int} {pr ra ua : Addr} {n1 n2 n3 : Nat} {t1 t2 t3 t4 t5 t6 t7 t8 : Tok} {rl ru : Nat}
    (O : Objs D R Lo Up items k ds rods lrows urows rvs lvs uvs sv tups) (hx : ∀ q ∈ extra, q.1 ≠ R ∧ q.1 ≠ Lo ∧ q.1 ≠ Up ∧ q.1 ≠ 94)
    (hpr : (pr, tupO [.int W t1, .int H t2] n1) ∈ extra) (hra : (ra, tupO [.int (turnT W H) t3, .int W t4, .int H t5] n2) ∈ extra) (hua : (ua, tupO [.int (-turnT W H) t6, .int W t7, .int H t8] n3) ∈ extra) (ok : RodOk (W, H))
    (l1 : ∀ (i : Nat) k, (lrows.map (·.t))[i]? = some k → i < rl → k ≤ turnT W H) (l2 : ∀ (i : Nat) k, (lrows.map (·.t))[i]? = some k → rl ≤ i → turnT W H < k)
    (u1 : ∀ (i : Nat) k, (urows.map (·.t))[i]? = some k → i < ru → k < -turnT W H) (u2 : ∀ (i : Nat) k, (urows.map (·.t))[i]? = some k → ru ≤ i → -turnT W H ≤ k)
    (st : SteepIs (extra ++ tups) sv' (insAt rl ⟨turnT W H, W, H⟩ lrows)) :
    Objs D R Lo Up items k ds (rods ++ [(W, H)]) (insAt rl ⟨turnT W H, W, H⟩ lrows) (insAt ru ⟨-turnT W H, W, H⟩ urows) (rvs ++ [.ref pr]) (lvs.take rl ++ .ref ra :: lvs.drop rl) (uvs.take ru ++ .ref ua :: uvs.drop ru) sv' (extra ++ tups) :=
  have sub : ∀ q ∈ tups, q ∈ extra ++ tups := fun q hq => List.mem_append.mpr (.inr hq)
  have sux : ∀ q ∈ extra, q ∈ extra ++ tups := fun q hq => List.mem_append.mpr (.inl hq)
  { inD := O.inD, okd := O.okd, n1 := O.n1, n2 := O.n2, n3 := O.n3, n4 := O.n4, n5 := O.n5, n6 := O.n6, n7 := O.n7, n8 := O.n8, n9 := O.n9, n10 := O.n10
    tR := fun q hq => (List.mem_append.mp hq).elim (fun h => (hx q h).1) (O.tR q)
    tL := fun q hq => (List.mem_append.mp hq).elim (fun h => (hx q h).2.1) (O.tL q)
    tU := fun q hq => (List.mem_append.mp hq).elim (fun h => (hx q h).2.2.1) (O.tU q)
    t94 := fun q hq => (List.mem_append.mp hq).elim (fun h => (hx q h).2.2.2) (O.t94 q)
    prs := (O.prs.keeps sub).append (.cons ⟨pr, n1, t1, t2, rfl, sux _ hpr⟩ .nil)
    lrw := (O.lrw.keeps sub).ins rl ⟨ra, n2, t3, t4, t5, rfl, sux _ hra⟩
    urw := (O.urw.keeps sub).ins ru ⟨ua, n3, t6, t7, t8, rfl, sux _ hua⟩
    ch := O.ch.more ok l1 l2 u1 u2
    st := st }
theorem steep_up {h : List (Addr × Obj)} {lrows : List Row3} {W H : Int} {rl : Nat} {v : Value} (hs : lrows = [] ∨ ∃ l, lrows.getLast? = some l ∧ l.t ≤ turnT W H)
    (l2 : ∀ (i : Nat) k, (lrows.map (·.t))[i]? = some k → rl ≤ i → turnT W H < k) (hv : IsRow h v ⟨-turnT W H, W, H⟩) : SteepIs h v (insAt rl ⟨turnT W H, W, H⟩ lrows) := by
  refine .inr ⟨⟨turnT W H, W, H⟩, last_end ?_, hv⟩
  rcases hs with rfl | ⟨l, hl, hle⟩
  · exact Nat.zero_le _
  · obtain ⟨h1, h2⟩ := last_key hl
    by_cases hr : rl ≤ lrows.length - 1
    · have := l2 _ _ h1 hr; omega
    · omega
theorem steep_stay {h : List (Addr × Obj)} {lrows : List Row3} {W H : Int} {rl : Nat} {v : Value} {l : Row3} (hl : lrows.getLast? = some l) (hlt : turnT W H < l.t)
    (l1 : ∀ (i : Nat) k, (lrows.map (·.t))[i]? = some k → i < rl → k ≤ turnT W H) (hv : IsRow h v ⟨-l.t, l.w, l.h⟩) : SteepIs h v (insAt rl ⟨turnT W H, W, H⟩ lrows) := by
  obtain ⟨h1, h2⟩ := last_key hl
  refine .inr ⟨l, ?_, hv⟩
  rw [last_in, hl]
  by_cases hr : lrows.length - 1 < rl
  · have := l1 _ _ h1 hr; omega
  · omega
theorem last_ok {rods : List Rod} {lrows urows : List Row3} (C : Chains rods lrows urows) {l : Row3} (hl : lrows.getLast? = some l) : RodOk (l.w, l.h) ∧ l.t = turnT l.w l.h := by
  have hm : l ∈ lrows := List.mem_of_getLast? hl
  exact ⟨C.ok _ (C.lp.mem_iff.mp (List.mem_map.mpr ⟨l, hm, rfl⟩)), C.lt l hm⟩
theorem steep_test {W H : Int} {l : Row3} (ok : RodOk (W, H)) (okl : RodOk (l.w, l.h)) (ht : l.t = turnT l.w l.h) : (l.w * H ≥ l.h * W) ↔ l.t ≤ turnT W H := by
  have := slope (w := W) (h := H) (v := l.w) (k := l.h) ok.1 ok.2 okl.1 okl.2
  rw [ht, Int.mul_comm l.w H]
  omega
theorem take_next {ds : List Int} {i : Nat} {y : Int} (h : ds[i]? = some y) : (ds.take (i + 1)).map rodOf = (ds.take i).map rodOf ++ [rodOf y] := by
  rw [List.take_add_one, h]
  simp
theorem step_done {h₀ h' : Heap} {L I : Addr} {D R Lo Up : Addr} {items : List Value} {k i tk' : Nat} {ds : List Int} {rods : List Rod} {lrows urows : List Row3} {rvs lvs uvs : List Value} {sv : Value} {tups led own : List (Addr × Obj)} {nr nl nu : Nat} {s : Shared} {u : Str → Option Value}
    (F : Fr h₀ L h' (kstB u [(sDrawn, .ref D), (sRods, .ref R), (sLower, .ref Lo), (sUpper, .ref Up), (sSteep, sv)])) (N : News h₀ L h' led)
    (O : Objs D R Lo Up items k ds rods lrows urows rvs lvs uvs sv tups) (hr : (ds.take (i + 1)).map rodOf = rods)
    (ho : ∀ q ∈ own, q ∈ led) (h1 : (94, tabObj #[]) ∈ led) (h2 : (D, listOf items.toArray k) ∈ led) (h3 : (R, listOf rvs.toArray nr) ∈ led) (h4 : (Lo, listOf lvs.toArray nl) ∈ led) (h5 : (Up, listOf uvs.toArray nu) ∈ led) (h6 : ∀ q ∈ tups, q ∈ led)
    (i1 : 94 ≠ I) (i2 : D ≠ I) (i3 : R ≠ I) (i4 : Lo ≠ I) (i5 : Up ≠ I) (i6 : ∀ q ∈ tups, q.1 ≠ I) :
    LoopStepU h₀ L [I] own (J4 D R Lo Up items k ds (i + 1)) s .next { s with heap := h', toks := tk' } := by
  refine LoopStepU.intro (news₂ := (94, tabObj #[]) :: (D, listOf items.toArray k) :: (R, listOf rvs.toArray nr) :: (Lo, listOf lvs.toArray nl) :: (Up, listOf uvs.toArray nu) :: tups) F (news_pick N fun q hq => ?_) (fun q hq => ?_) ?_
  · simp only [List.mem_append, List.mem_cons] at hq
    rcases hq with h | h | h | h | h | h | h
    · exact ho q h
    · exact h ▸ h1
    · exact h ▸ h2
    · exact h ▸ h3
    · exact h ▸ h4
    · exact h ▸ h5
    · exact h6 q h
  · simp only [List.mem_cons, List.not_mem_nil, or_false] at hq ⊢
    rcases hq with h | h | h | h | h | h
    · exact h ▸ i1
    · exact h ▸ i2
    · exact h ▸ i3
    · exact h ▸ i4
    · exact h ▸ i5
    · exact i6 q h
  · exact ⟨u, lrows, urows, rvs, lvs, uvs, sv, tups, nr, nl, nu, hr ▸ O, rfl, rfl⟩
theorem mem_app {P : Addr × Obj → Prop} {a b : List (Addr × Obj)} (h1 : ∀ q ∈ a, P q) (h2 : ∀ q ∈ b, P q) : ∀ q ∈ a ++ b, P q := fun q hq => (List.mem_append.mp hq).elim (h1 q) (h2 q)
theorem all_one {P : Addr × Obj → Prop} {x : Addr × Obj} {l : List (Addr × Obj)} (h1 : P x) (h2 : ∀ q ∈ l, P q) : ∀ q ∈ x :: l, P q := fun q hq => (List.mem_cons.mp hq).elim (fun e => e ▸ h1) (h2 q)
theorem all_nil {P : Addr × Obj → Prop} : ∀ q ∈ ([] : List (Addr × Obj)), P q := fun _ h => nomatch h
theorem step_up {h₀ h' : Heap} {L I : Addr} {D R Lo Up : Addr} {items : List Value} {k i tk' : Nat} {ds : List Int} {rods : List Rod} {lrows urows : List Row3} {rvs lvs uvs : List Value} {sv : Value} {tups tl own : List (Addr × Obj)} {nr nl nu : Nat} {s : Shared} {u : Str → Option Value} {W H : Int} {pr ra ua sa : Addr} {n0 n1 n2 n3 : Nat} {a1 a2 a3 t1 t2 t3 t4 t5 t6 t7 t8 : Tok} {rl ru : Nat}
    (F : Fr h₀ L h' (kstB u [(sDrawn, .ref D), (sRods, .ref R), (sLower, .ref Lo), (sUpper, .ref Up), (sSteep, .ref sa)]))
    (N : News h₀ L h' ((sa, tupO [.int (-turnT W H) a1, .int W a2, .int H a3] n0) :: (Up, listOf (uvs.take ru ++ .ref ua :: uvs.drop ru).toArray nu) :: (Lo, listOf (lvs.take rl ++ .ref ra :: lvs.drop rl).toArray nl) :: (R, listOf (rvs ++ [Value.ref pr]).toArray nr) :: (94, tabObj #[]) :: (D, listOf items.toArray k) :: (ua, tupO [.int (-turnT W H) t6, .int W t7, .int H t8] n3) :: (ra, tupO [.int (turnT W H) t3, .int W t4, .int H t5] n2) :: (pr, tupO [.int W t1, .int H t2] n1) :: tl))
    (O : Objs D R Lo Up items k ds rods lrows urows rvs lvs uvs sv tups) (hr : (ds.take (i + 1)).map rodOf = rods ++ [(W, H)]) (ok : RodOk (W, H))
    (l1 : ∀ (i : Nat) k, (lrows.map (·.t))[i]? = some k → i < rl → k ≤ turnT W H) (l2 : ∀ (i : Nat) k, (lrows.map (·.t))[i]? = some k → rl ≤ i → turnT W H < k)
    (u1 : ∀ (i : Nat) k, (urows.map (·.t))[i]? = some k → i < ru → k < -turnT W H) (u2 : ∀ (i : Nat) k, (urows.map (·.t))[i]? = some k → ru ≤ i → -turnT W H ≤ k)
    (ho : ∀ q ∈ own, q ∈ tl) (hs : ∀ q ∈ tups, q ∈ tl) (i1 : 94 ≠ I) (i2 : D ≠ I) (i3 : R ≠ I) (i4 : Lo ≠ I) (i5 : Up ≠ I) (i6 : ∀ q ∈ tups, q.1 ≠ I)
    (xu : ua ≠ R ∧ ua ≠ Lo ∧ ua ≠ Up ∧ ua ≠ 94) (xr : ra ≠ R ∧ ra ≠ Lo ∧ ra ≠ Up ∧ ra ≠ 94) (xp : pr ≠ R ∧ pr ≠ Lo ∧ pr ≠ Up ∧ pr ≠ 94) (iu : ua ≠ I) (ir : ra ≠ I) (ip : pr ≠ I)
    (xs : sa ≠ R ∧ sa ≠ Lo ∧ sa ≠ Up ∧ sa ≠ 94) (is : sa ≠ I) (st : lrows = [] ∨ ∃ l, lrows.getLast? = some l ∧ l.t ≤ turnT W H) :
    LoopStepU h₀ L [I] own (J4 D R Lo Up items k ds (i + 1)) s .next { s with heap := h', toks := tk' } := by
  refine step_done F N (O.next (extra := [(sa, tupO [.int (-turnT W H) a1, .int W a2, .int H a3] n0), (ua, tupO [.int (-turnT W H) t6, .int W t7, .int H t8] n3), (ra, tupO [.int (turnT W H) t3, .int W t4, .int H t5] n2), (pr, tupO [.int W t1, .int H t2] n1)]) (all_one xs (all_one xu (all_one xr (all_one xp all_nil)))) (.tail _ (.tail _ (.tail _ (.head _)))) (.tail _ (.tail _ (.head _))) (.tail _ (.head _)) ok l1 l2 u1 u2 (steep_up st l2 ⟨sa, n0, _, _, _, rfl, .head _⟩)) hr
    (fun q hq => ?_) (.tail _ (.tail _ (.tail _ (.tail _ (.head _))))) (.tail _ (.tail _ (.tail _ (.tail _ (.tail _ (.head _)))))) (.tail _ (.tail _ (.tail _ (.head _)))) (.tail _ (.tail _ (.head _))) (.tail _ (.head _)) (mem_app (all_one (.head _) (all_one ?_ (all_one ?_ (all_one ?_ all_nil)))) fun q hq => ?_) i1 i2 i3 i4 i5 (mem_app (all_one is (all_one iu (all_one ir (all_one ip all_nil)))) i6)
  · exact .tail _ (.tail _ (.tail _ (.tail _ (.tail _ (.tail _ (.tail _ (.tail _ (.tail _ (ho q hq)))))))))
  · exact .tail _ (.tail _ (.tail _ (.tail _ (.tail _ (.tail _ (.head _))))))
  · exact .tail _ (.tail _ (.tail _ (.tail _ (.tail _ (.tail _ (.tail _ (.head _)))))))
  · exact .tail _ (.tail _ (.tail _ (.tail _ (.tail _ (.tail _ (.tail _ (.tail _ (.head _))))))))
  · exact .tail _ (.tail _ (.tail _ (.tail _ (.tail _ (.tail _ (.tail _ (.tail _ (.tail _ (hs q hq)))))))))
theorem step_stay {h₀ h' : Heap} {L I : Addr} {D R Lo Up : Addr} {items : List Value} {k i tk' : Nat} {ds : List Int} {rods : List Rod} {lrows urows : List Row3} {rvs lvs uvs : List Value} {sv : Value} {tups tl own : List (Addr × Obj)} {nr nl nu : Nat} {s : Shared} {u : Str → Option Value} {W H : Int} {pr ra ua : Addr} {n1 n2 n3 : Nat} {t1 t2 t3 t4 t5 t6 t7 t8 : Tok} {rl ru : Nat}
    (F : Fr h₀ L h' (kstB u [(sDrawn, .ref D), (sRods, .ref R), (sLower, .ref Lo), (sUpper, .ref Up), (sSteep, sv)]))
    (N : News h₀ L h' ((Up, listOf (uvs.take ru ++ .ref ua :: uvs.drop ru).toArray nu) :: (Lo, listOf (lvs.take rl ++ .ref ra :: lvs.drop rl).toArray nl) :: (R, listOf (rvs ++ [Value.ref pr]).toArray nr) :: (94, tabObj #[]) :: (D, listOf items.toArray k) :: (ua, tupO [.int (-turnT W H) t6, .int W t7, .int H t8] n3) :: (ra, tupO [.int (turnT W H) t3, .int W t4, .int H t5] n2) :: (pr, tupO [.int W t1, .int H t2] n1) :: tl))
    (O : Objs D R Lo Up items k ds rods lrows urows rvs lvs uvs sv tups) (hr : (ds.take (i + 1)).map rodOf = rods ++ [(W, H)]) (ok : RodOk (W, H))
    (l1 : ∀ (i : Nat) k, (lrows.map (·.t))[i]? = some k → i < rl → k ≤ turnT W H) (l2 : ∀ (i : Nat) k, (lrows.map (·.t))[i]? = some k → rl ≤ i → turnT W H < k)
    (u1 : ∀ (i : Nat) k, (urows.map (·.t))[i]? = some k → i < ru → k < -turnT W H) (u2 : ∀ (i : Nat) k, (urows.map (·.t))[i]? = some k → ru ≤ i → -turnT W H ≤ k)
    (ho : ∀ q ∈ own, q ∈ tl) (hs : ∀ q ∈ tups, q ∈ tl) (i1 : 94 ≠ I) (i2 : D ≠ I) (i3 : R ≠ I) (i4 : Lo ≠ I) (i5 : Up ≠ I) (i6 : ∀ q ∈ tups, q.1 ≠ I)
    (xu : ua ≠ R ∧ ua ≠ Lo ∧ ua ≠ Up ∧ ua ≠ 94) (xr : ra ≠ R ∧ ra ≠ Lo ∧ ra ≠ Up ∧ ra ≠ 94) (xp : pr ≠ R ∧ pr ≠ Lo ∧ pr ≠ Up ∧ pr ≠ 94) (iu : ua ≠ I) (ir : ra ≠ I) (ip : pr ≠ I)
    (l : Row3) (hl : lrows.getLast? = some l) (hlt : turnT W H < l.t) (hrow : IsRow tups sv ⟨-l.t, l.w, l.h⟩) :
    LoopStepU h₀ L [I] own (J4 D R Lo Up items k ds (i + 1)) s .next { s with heap := h', toks := tk' } := by
  refine step_done F N (O.next (extra := [(ua, tupO [.int (-turnT W H) t6, .int W t7, .int H t8] n3), (ra, tupO [.int (turnT W H) t3, .int W t4, .int H t5] n2), (pr, tupO [.int W t1, .int H t2] n1)]) (all_one xu (all_one xr (all_one xp all_nil))) (.tail _ (.tail _ (.head _))) (.tail _ (.head _)) (.head _) ok l1 l2 u1 u2 (steep_stay hl hlt l1 (hrow.keeps fun q hq => List.mem_append.mpr (.inr hq)))) hr
    (fun q hq => ?_) (.tail _ (.tail _ (.tail _ (.head _)))) (.tail _ (.tail _ (.tail _ (.tail _ (.head _))))) (.tail _ (.tail _ (.head _))) (.tail _ (.head _)) (.head _) (mem_app (all_one ?_ (all_one ?_ (all_one ?_ all_nil))) fun q hq => ?_) i1 i2 i3 i4 i5 (mem_app (all_one iu (all_one ir (all_one ip all_nil))) i6)
  · exact .tail _ (.tail _ (.tail _ (.tail _ (.tail _ (.tail _ (.tail _ (.tail _ (ho q hq))))))))
  · exact .tail _ (.tail _ (.tail _ (.tail _ (.tail _ (.head _)))))
  · exact .tail _ (.tail _ (.tail _ (.tail _ (.tail _ (.tail _ (.head _))))))
  · exact .tail _ (.tail _ (.tail _ (.tail _ (.tail _ (.tail _ (.tail _ (.head _)))))))
  · exact .tail _ (.tail _ (.tail _ (.tail _ (.tail _ (.tail _ (.tail _ (.tail _ (hs q hq))))))))
theorem news_skip2 {h₀ h : Heap} {L : Addr} {a b : Addr × Obj} {l : List (Addr × Obj)} (N : News h₀ L h (a :: b :: l)) : News h₀ L h (a :: l) := fun q hq => by
  rcases List.mem_cons.mp hq with rfl | hq
  · exact N _ (.head _)
  · exact N _ (.tail _ (.tail _ hq))
end Mine
end
section
open PySem PySem.W PyProof.Rows PySem.Calls PySem.Spec
namespace Mine
/-- the rods are those drawn, or the steepest comes once more -/
def Once (ds : List Int) (rods : List Rod) (lrows : List Row3) : Prop :=
  rods.length = ds.length ∨ (rods.length = ds.length + 1 ∧ ∃ l0 l, lrows = l0 ++ [l] ∧ l0.getLast? = some l)
def P5 (h₀ : Heap) (L : Addr) (s₁ : Shared) (s : Shared) : Prop :=
  ∃ D R Lo Up items k ds rods lrows urows rvs lvs uvs sv tups nr nl nu u, Objs D R Lo Up items k ds rods lrows urows rvs lvs uvs sv tups ∧ Once ds rods lrows ∧
    Fr h₀ L s.heap (kstB u [(sDrawn, .ref D), (sRods, .ref R), (sLower, .ref Lo), (sUpper, .ref Up)]) ∧
    News h₀ L s.heap ((94, tabObj #[]) :: (D, listOf items.toArray k) :: (R, listOf rvs.toArray nr) :: (Lo, listOf lvs.toArray nl) :: (Up, listOf uvs.toArray nu) :: tups) ∧ s.os = s₁.os ∧ AllBare s.gens
theorem last_top {rows : List Row3} (hs : rows.Pairwise (fun a b => a.t ≤ b.t)) {l : Row3} (hl : rows.getLast? = some l) : ∀ a ∈ rows, a.t ≤ l.t := by
  obtain ⟨ys, rfl⟩ := List.getLast?_eq_some_iff.mp hl
  intro a ha
  rw [List.pairwise_append] at hs
  rcases List.mem_append.mp ha with h | h
  · exact hs.2.2 a h l (.head _)
  · rw [List.mem_singleton.mp h]; exact Int.le_refl _
theorem Chains.again {rods : List Rod} {lrows urows : List Row3} (C : Chains rods lrows urows) {l : Row3} (hl : lrows.getLast? = some l) {ru : Nat}
    (u1 : ∀ (i : Nat) k, (urows.map (·.t))[i]? = some k → i < ru → k < -l.t) (u2 : ∀ (i : Nat) k, (urows.map (·.t))[i]? = some k → ru ≤ i → -l.t ≤ k) :
    Chains (rods ++ [(l.w, l.h)]) (lrows ++ [l]) (insAt ru ⟨-l.t, l.w, l.h⟩ urows) where
  ok := fun p hp => by
    rcases List.mem_append.mp hp with hp | hp
    · exact C.ok p hp
    · rw [List.mem_singleton.mp hp]; exact (last_ok C hl).1
  lt := fun r hr => by
    rcases List.mem_append.mp hr with hr | hr
    · exact C.lt r hr
    · rw [List.mem_singleton.mp hr]; exact (last_ok C hl).2
  ut := fun r hr => by
    rcases List.mem_cons.mp ((ins_perm _ _ _).mem_iff.mp hr) with rfl | hr
    · show -l.t = -turnT l.w l.h
      rw [(last_ok C hl).2]
    · exact C.ut r hr
  lp := by rw [List.map_append]; exact C.lp.append_right _
  up := ((ins_perm _ _ _).map _).trans ((List.Perm.cons _ C.up).trans (List.perm_append_singleton _ _).symm)
  ls := by
    rw [List.pairwise_append]
    refine ⟨C.ls, List.pairwise_singleton _ _, fun a ha b hb => ?_⟩
    rw [List.mem_singleton.mp hb]
    exact last_top C.ls hl a ha
  us := ins_sorted C.us (fun a ha => let ⟨i, hi, e⟩ := mem_take_key ha; Int.le_of_lt (u1 i _ e hi)) (fun a ha => let ⟨i, hi, e⟩ := mem_drop_key ha; u2 i _ e hi)
theorem RowsAre.last {h : List (Addr × Obj)} {vs : List Value} {rs : List Row3} (x : RowsAre h vs rs) {l : Row3} (hl : rs.getLast? = some l) : ∃ v, vs[vs.length - 1]? = some v ∧ IsRow h v l := by
  rw [List.getLast?_eq_getElem?] at hl
  rw [x.length]
  exact x.get _ _ hl
theorem Objs.again {D R Lo Up : Addr} {items : List Value} {k : Nat} {ds : List Int} {rods : List Rod} {lrows urows : List Row3} {rvs lvs uvs : List Value} {sv : Value} {tups : List (Addr × Obj)} {pr : Addr} {n1 : Nat} {t1 t2 : Tok} {ru : Nat} {l : Row3} {v : Value}
    (O : Objs D R Lo Up items k ds rods lrows urows rvs lvs uvs sv tups) (hl : lrows.getLast? = some l) (hv : IsRow tups v l) (hsv : IsRow tups sv ⟨-l.t, l.w, l.h⟩) (hx : pr ≠ R ∧ pr ≠ Lo ∧ pr ≠ Up ∧ pr ≠ 94)
    (u1 : ∀ (i : Nat) k, (urows.map (·.t))[i]? = some k → i < ru → k < -l.t) (u2 : ∀ (i : Nat) k, (urows.map (·.t))[i]? = some k → ru ≤ i → -l.t ≤ k) :
    Objs D R Lo Up items k ds (rods ++ [(l.w, l.h)]) (lrows ++ [l]) (insAt ru ⟨-l.t, l.w, l.h⟩ urows) (rvs ++ [.ref pr]) (lvs ++ [v]) (uvs.take ru ++ sv :: uvs.drop ru) sv ((pr, tupO [.int l.w t1, .int l.h t2] n1) :: tups) :=
  have sub : ∀ q ∈ tups, q ∈ ((pr, tupO [.int l.w t1, .int l.h t2] n1) :: tups : List (Addr × Obj)) := fun _ hq => .tail _ hq
  { inD := O.inD, okd := O.okd, n1 := O.n1, n2 := O.n2, n3 := O.n3, n4 := O.n4, n5 := O.n5, n6 := O.n6, n7 := O.n7, n8 := O.n8, n9 := O.n9, n10 := O.n10
    tR := all_one hx.1 O.tR
    tL := all_one hx.2.1 O.tL
    tU := all_one hx.2.2.1 O.tU
    t94 := all_one hx.2.2.2 O.t94
    prs := (O.prs.keeps sub).append (.cons ⟨pr, n1, t1, t2, rfl, .head _⟩ .nil)
    lrw := (O.lrw.keeps sub).append (.cons (hv.keeps sub) .nil)
    urw := (O.urw.keeps sub).ins ru (hsv.keeps sub)
    ch := O.ch.again hl u1 u2
    st := .inr ⟨l, by simp, hsv.keeps sub⟩ }
theorem news_app {h₀ h : Heap} {L : Addr} {x r4 r5 r1 r2 r3 : Addr × Obj} {tl : List (Addr × Obj)} (N : News h₀ L h (x :: r4 :: r5 :: r1 :: r2 :: r3 :: tl)) : News h₀ L h (r1 :: r2 :: r3 :: r4 :: r5 :: x :: tl) := news_pick N (by
  intro q hq
  simp only [List.mem_cons] at hq ⊢
  rcases hq with h | h | h | h | h | h | h <;> simp [h])
theorem news_2 {h₀ h : Heap} {L : Addr} {x r1 r2 r3 r4 r5 : Addr × Obj} {tl : List (Addr × Obj)} (N : News h₀ L h (r1 :: r2 :: r3 :: r4 :: r5 :: x :: tl)) : News h₀ L h (r2 :: r1 :: r3 :: r4 :: r5 :: x :: tl) := news_pick N (by
  intro q hq
  simp only [List.mem_cons] at hq ⊢
  rcases hq with h | h | h | h | h | h | h <;> simp [h])
theorem news_3 {h₀ h : Heap} {L : Addr} {x r1 r2 r3 r4 r5 : Addr × Obj} {tl : List (Addr × Obj)} (N : News h₀ L h (r1 :: r2 :: r3 :: r4 :: r5 :: x :: tl)) : News h₀ L h (r3 :: r1 :: r2 :: r4 :: r5 :: x :: tl) := news_pick N (by
  intro q hq
  simp only [List.mem_cons] at hq ⊢
  rcases hq with h | h | h | h | h | h | h <;> simp [h])
theorem news_back {h₀ h : Heap} {L : Addr} {x r1 r2 r3 r4 r5 : Addr × Obj} {tl : List (Addr × Obj)} (N : News h₀ L h (r3 :: r2 :: r1 :: r4 :: r5 :: x :: tl)) : News h₀ L h (r4 :: r5 :: r1 :: r2 :: r3 :: x :: tl) := news_pick N (by
  intro q hq
  simp only [List.mem_cons] at hq ⊢
  rcases hq with h | h | h | h | h | h | h <;> simp [h])
end Mine
end
section
open PySem PySem.W PyProof.Rows PySem.Calls PySem.Spec
namespace Mine
structure Mark6 : Prop where
theorem news_new {h₀ h h' : Heap} {L D : Addr} {m : Str → Option Value} {news : List (Addr × Obj)} {its : Array Value} (F : Fr h₀ L h m) (N : News h₀ L h news) (hD : h.get? D = none) (hl : h'.IsList D its) (hk : ∀ b o, h.get? b = some o → h'.get? b = some o) :
    ∃ o, o.cls = .type "list" ∧ (∃ n, o.data = .seq its n) ∧ News h₀ L h' ((D, o) :: news) ∧ ∀ q ∈ news, q.1 ≠ D := by
  obtain ⟨o, ho, hc, n, hd⟩ := hl
  have hne : ∀ q ∈ news, q.1 ≠ D := fun q hq e => by
    have := (N q hq).1
    rw [e, hD] at this
    cases this
  refine ⟨o, hc, ⟨n, hd⟩, fun q hq => ?_, hne⟩
  rcases List.mem_cons.mp hq with rfl | hq
  · refine ⟨ho, fun e => ?_, ?_⟩
    · obtain ⟨oL, _, _, hoL, _⟩ := F.ns
      dsimp only at e
      rw [← e, hD] at hoL
      cases hoL
    · cases h0 : h₀.get? D with
      | none => rfl
      | some o9 => have := F.keep _ _ h0; rw [hD] at this; cases this
  · exact N.grown hk q hq
theorem isList_obj {h₀ h : Heap} {L D : Addr} {news : List (Addr × Obj)} {o : Obj} {its : Array Value} (N : News h₀ L h news) (hm : (D, o) ∈ news) (hc : o.cls = .type "list") (hd : ∃ n, o.data = .seq its n) : h.IsList D its :=
  let ⟨n, e⟩ := hd; ⟨o, (N _ hm).1, hc, n, e⟩
theorem pick_upto (vs : List Value) (n : Nat) : kms_pick vs none (some (n : Int)) = vs.take n := by
  unfold kms_pick kms_lo kms_hi
  have e1 : ¬ ((n : Int) < 0) := by omega
  simp only [if_neg e1, Int.toNat_natCast, List.drop_zero, Nat.sub_zero]
  rw [Nat.min_def]
  split
  · rfl
  · rw [List.take_of_length_le (Nat.le_refl _), List.take_of_length_le (by omega)]
abbrev sUnder : Str := Str.ofString "under"
abbrev sOver : Str := Str.ofString "over"
def widths (rows : List Row3) : List Int := rows.map (Row3.sel · 1)
theorem widths_ok {rods : List Rod} {rows : List Row3} (hp : (rows.map Row3.rod).Perm rods) (ok : ∀ p ∈ rods, RodOk p) : ∀ x ∈ widths rows, x ≠ 0 ∧ x ≠ 127 := by
  intro x hx
  obtain ⟨r, hr, rfl⟩ := List.mem_map.mp hx
  have h := (ok _ (hp.mem_iff.mp (List.mem_map.mpr ⟨r, hr, rfl⟩))).1
  show r.w ≠ 0 ∧ r.w ≠ 127
  have h' : 1 ≤ r.w ∧ r.w ≤ 3 := h
  omega
def P6 (h₀ : Heap) (L : Addr) (s₁ : Shared) (s : Shared) : Prop :=
  ∃ D R Lo Up items k ds rods lrows urows rvs lvs uvs sv tups nr nl nu u Un uns nun, Objs D R Lo Up items k ds rods lrows urows rvs lvs uvs sv tups ∧ Once ds rods lrows ∧
    IntsAre uns (endsL (widths (lrows.take ds.length)) rods.length) ∧ Un ≠ 94 ∧
    Fr h₀ L s.heap (kstB u [(sRods, .ref R), (sLower, .ref Lo), (sUpper, .ref Up), (sUnder, .ref Un)]) ∧
    News h₀ L s.heap ((94, tabObj #[]) :: (R, listOf rvs.toArray nr) :: (Lo, listOf lvs.toArray nl) :: (Up, listOf uvs.toArray nu) :: (Un, listOf uns.toArray nun) :: tups) ∧ s.os = s₁.os ∧ AllBare s.gens
theorem two_ints (a b : Int) (t u : Tok) : IntsAre [.int a t, .int b u] [a, b] := .cons _ _ (.cons _ _ .nil)
def P7 (h₀ : Heap) (L : Addr) (s₁ : Shared) (s : Shared) : Prop :=
  ∃ D R Lo Up items k ds rods lrows urows rvs lvs uvs sv tups nr nl nu u Un uns nun Ov ovs nov, Objs D R Lo Up items k ds rods lrows urows rvs lvs uvs sv tups ∧ Once ds rods lrows ∧
    IntsAre uns (endsL (widths (lrows.take ds.length)) rods.length) ∧ Un ≠ 94 ∧ IntsAre ovs (endsL (widths urows) urows.length) ∧ Ov ≠ 94 ∧
    Fr h₀ L s.heap (kstB u [(sRods, .ref R), (sLower, .ref Lo), (sUpper, .ref Up), (sUnder, .ref Un), (sOver, .ref Ov)]) ∧
    News h₀ L s.heap ((94, tabObj #[]) :: (R, listOf rvs.toArray nr) :: (Lo, listOf lvs.toArray nl) :: (Up, listOf uvs.toArray nu) :: (Un, listOf uns.toArray nun) :: (Ov, listOf ovs.toArray nov) :: tups) ∧ s.os = s₁.os ∧ AllBare s.gens
end Mine
end
section
open PySem PySem.W PyProof.Rows PySem.Calls PySem.Spec
namespace Mine
/-- the columns at which the rods of a chain end -/
def endsT (rows : List Row3) : List Int := (List.range (rows.length + 1)).map fun j => ((widths rows).take j).sum
theorem psum_take {xs ws : List Int} : ∀ (j : Nat), (∀ i, i < j → yld ws i = xs.getD i 0) → j ≤ xs.length → psum ws j = (xs.take j).sum
  | 0, _, _ => by simp [psum]
  | j + 1, h, hj => by
    rw [psum_succ, psum_take j (fun i hi => h i (by omega)) (by omega), h j (by omega), List.take_add_one, List.sum_append]
    rw [List.getD_eq_getElem?_getD, List.getElem?_eq_getElem (by omega)]
    simp
theorem ends_eq {ws : List Int} {rows : List Row3} (h : ∀ i, i < rows.length → yld ws i = (widths rows).getD i 0) : endsL ws rows.length = endsT rows := by
  unfold endsL endsT
  refine List.map_congr_left fun j hj => ?_
  have hj' := List.mem_range.mp hj
  exact psum_take j (fun i hi => h i (by omega)) (by unfold widths; rw [List.length_map]; omega)
theorem widths_length (rows : List Row3) : (widths rows).length = rows.length := by unfold widths; rw [List.length_map]
theorem ends_over (rows : List Row3) : endsL (widths rows) rows.length = endsT rows := ends_eq fun i hi => by
  unfold yld
  rw [Nat.min_eq_left (by rw [widths_length]; omega)]
theorem ends_under {ds : List Int} {rods : List Rod} {lrows : List Row3} (h : Once ds rods lrows) (hl : lrows.length = rods.length) : endsL (widths (lrows.take ds.length)) rods.length = endsT lrows := by
  rw [← hl]
  rcases h with h | ⟨h, l0, l, rfl, hlast⟩
  · rw [List.take_of_length_le (by omega)]
    exact ends_over lrows
  · rw [List.length_append, List.length_singleton] at hl
    have e1 : (l0 ++ [l]).take ds.length = l0 := by
      rw [show ds.length = l0.length by omega]; simp
    rw [e1]
    refine ends_eq fun i hi => ?_
    rw [List.length_append, List.length_singleton] at hi
    obtain ⟨ys, rfl⟩ := List.getLast?_eq_some_iff.mp hlast
    rw [List.length_append, List.length_singleton] at hi
    unfold yld
    rw [widths_length, List.length_append, List.length_singleton]
    unfold widths
    rw [List.getD_eq_getElem?_getD, List.getD_eq_getElem?_getD, List.getElem?_map, List.getElem?_map]
    congr 1
    by_cases hlt : i < ys.length + 1
    · rw [Nat.min_eq_left (by omega), List.getElem?_append_left (l₁ := ys ++ [l]) (by rw [List.length_append, List.length_singleton]; exact hlt)]
    · have ei : i = ys.length + 1 := by omega
      subst ei
      rw [Nat.min_eq_right (by omega)]
      simp
theorem perm_sum {a b : List Int} (h : a.Perm b) : a.sum = b.sum := by
  induction h with
  | nil => rfl
  | cons x _ ih => simp [ih]
  | swap x y l => simp; omega
  | trans _ _ i1 i2 => exact i1.trans i2
theorem widths_perm {rods : List Rod} {rows : List Row3} (hp : (rows.map Row3.rod).Perm rods) : (widths rows).Perm (rods.map (·.1)) := by
  have := hp.map (·.1)
  rw [List.map_map] at this
  exact this
theorem ends_last (rows : List Row3) : (endsT rows)[rows.length]? = some (widths rows).sum := by
  unfold endsT
  rw [List.getElem?_map, List.getElem?_range (by omega)]
  simp [List.take_of_length_le (Nat.le_of_eq (widths_length rows))]
theorem ends_length (rows : List Row3) : (endsT rows).length = rows.length + 1 := by unfold endsT; simp
def P8 (h₀ : Heap) (L : Addr) (s₁ : Shared) (s : Shared) : Prop :=
  ∃ D R Lo Up items k ds rods lrows urows rvs lvs uvs sv tups nr nl nu u Un uns nun Ov ovs nov, Objs D R Lo Up items k ds rods lrows urows rvs lvs uvs sv tups ∧ rods.length ≤ 5 ∧ 3 ≤ rods.length ∧
    IntsAre uns (endsT lrows) ∧ Un ≠ 94 ∧ IntsAre ovs (endsT urows) ∧ Ov ≠ 94 ∧
    Fr h₀ L s.heap (kstB u [(sRods, .ref R), (sLower, .ref Lo), (sUpper, .ref Up), (sUnder, .ref Un), (sOver, .ref Ov)]) ∧
    News h₀ L s.heap ((94, tabObj #[]) :: (R, listOf rvs.toArray nr) :: (Lo, listOf lvs.toArray nl) :: (Up, listOf uvs.toArray nu) :: (Un, listOf uns.toArray nun) :: (Ov, listOf ovs.toArray nov) :: tups) ∧ s.os = s₁.os ∧ AllBare s.gens
end Mine
end
section
open PySem PySem.W PyProof.Rows PySem.Calls PySem.Spec
namespace Mine
/-- floor and ceiling of h * c / w -/
def flq (w h c : Int) : Int := (h * c).fdiv w
def ceq (w h c : Int) : Int := -((-(h * c)).fdiv w)
/-- floor and ceiling of the chain's line at a column -/
def fl : List Row3 → Int → Int
  | [], _ => 0
  | r :: rest, c => if c ≤ r.w then flq r.w r.h c else r.h + fl rest (c - r.w)
def ce : List Row3 → Int → Int
  | [], _ => 0
  | r :: rest, c => if c ≤ r.w then ceq r.w r.h c else r.h + ce rest (c - r.w)
def preW (rows : List Row3) (i : Nat) : Int := ((widths rows).take i).sum
def preH (rows : List Row3) (i : Nat) : Int := ((rows.take i).map (Row3.sel · 2)).sum
theorem at_col : ∀ (rows : List Row3) (c : Int), rows ≠ [] → (∀ r ∈ rows, 1 ≤ r.w) → 0 ≤ c → c ≤ (widths rows).sum →
    ∃ i row, rows[i]? = some row ∧ preW rows i ≤ c ∧ (c = 0 ∧ i = 0 ∨ preW rows i < c) ∧ c ≤ preW rows i + row.w ∧ fl rows c = preH rows i + flq row.w row.h (c - preW rows i) ∧ ce rows c = preH rows i + ceq row.w row.h (c - preW rows i)
  | [], _, h, _, _, _ => absurd rfl h
  | r :: rest, c, _, hw, h0, h1 => by
    have hr : 1 ≤ r.w := hw r (.head _)
    by_cases hc : c ≤ r.w
    · refine ⟨0, r, rfl, ?_, ?_, ?_, ?_, ?_⟩
      · simpa [preW] using h0
      · rcases Int.lt_or_eq_of_le h0 with h | h
        · exact .inr (by simpa [preW] using h)
        · exact .inl ⟨h.symm, rfl⟩
      · simpa [preW] using hc
      · simp [fl, hc, preW, preH]
      · simp [ce, hc, preW, preH]
    · have hs : (widths (r :: rest)).sum = r.w + (widths rest).sum := by simp [widths, Row3.sel]
      have hne : rest ≠ [] := by
        rintro rfl
        have e : (widths [r]).sum = r.w := by simp [widths, Row3.sel]
        omega
      obtain ⟨i, row, e1, e2, e3, e4, e5, e6⟩ := at_col rest (c - r.w) hne (fun q hq => hw q (.tail _ hq)) (by omega) (by omega)
      have ew : preW (r :: rest) (i + 1) = r.w + preW rest i := by simp [preW, widths, Row3.sel]
      have eh : preH (r :: rest) (i + 1) = r.h + preH rest i := by simp [preH, Row3.sel]
      have ec : c - r.w - preW rest i = c - (r.w + preW rest i) := by omega
      refine ⟨i + 1, row, by simpa using e1, by omega, ?_, by omega, ?_, ?_⟩
      · rw [ew]; omega
      · rw [ew, eh, fl, if_neg hc, e5, ec]; omega
      · rw [ew, eh, ce, if_neg hc, e6, ec]; omega
/-- sums over columns -/
def sumTo : Nat → (Nat → Int) → Int
  | 0, _ => 0
  | n + 1, f => sumTo n f + f n
theorem sumTo_congr {f g : Nat → Int} : ∀ {n : Nat}, (∀ i, i < n → f i = g i) → sumTo n f = sumTo n g
  | 0, _ => rfl
  | n + 1, h => by rw [sumTo, sumTo, sumTo_congr fun i hi => h i (by omega), h n (by omega)]
theorem sumTo_add (f : Nat → Int) (a : Nat) : ∀ b, sumTo (a + b) f = sumTo a f + sumTo b (fun c => f (a + c))
  | 0 => by simp [sumTo]
  | b + 1 => by rw [← Nat.add_assoc, sumTo, sumTo, sumTo_add f a b]; omega
theorem sumTo_plus (f g : Nat → Int) : ∀ n, sumTo n (fun c => f c + g c) = sumTo n f + sumTo n g
  | 0 => rfl
  | n + 1 => by simp only [sumTo, sumTo_plus f g n]; omega
theorem sumTo_minus (f g : Nat → Int) : ∀ n, sumTo n (fun c => f c - g c) = sumTo n f - sumTo n g
  | 0 => rfl
  | n + 1 => by simp only [sumTo, sumTo_minus f g n]; omega
theorem sumTo_const (k : Int) : ∀ n : Nat, sumTo n (fun _ => k) = n * k
  | 0 => by simp [sumTo]
  | n + 1 => by rw [sumTo, sumTo_const k n, Int.natCast_add, Int.add_mul]; simp
/-- the rods' own sums -/
def flr (w h : Int) : Int := sumTo w.toNat (fun j => flq w h ((j : Int) + 1))
def cer (w h : Int) : Int := sumTo w.toNat (fun j => ceq w h ((j : Int) + 1))
/-- what the chain's order makes -/
def area : List Row3 → Int
  | [] => 0
  | r :: rest => r.h * (widths rest).sum + area rest
theorem widths_pos : ∀ (rows : List Row3), (∀ r ∈ rows, 1 ≤ r.w) → 0 ≤ (widths rows).sum
  | [], _ => by simp [widths]
  | r :: rest, h => by
    have := widths_pos rest fun q hq => h q (.tail _ hq)
    have h1 := h r (.head _)
    simp only [widths, List.map_cons, List.sum_cons, Row3.sel] at *
    omega
theorem sum_fl : ∀ (rows : List Row3), (∀ r ∈ rows, 1 ≤ r.w) → sumTo (widths rows).sum.toNat (fun j => fl rows ((j : Int) + 1)) = area rows + (rows.map fun r => flr r.w r.h).sum
  | [], _ => by simp [widths, sumTo, area]
  | r :: rest, h => by
    have h1 := h r (.head _)
    have hp := widths_pos rest fun q hq => h q (.tail _ hq)
    have ih := sum_fl rest fun q hq => h q (.tail _ hq)
    have hs : (widths (r :: rest)).sum = r.w + (widths rest).sum := by simp [widths, Row3.sel]
    have e : (widths (r :: rest)).sum.toNat = r.w.toNat + (widths rest).sum.toNat := by rw [hs]; omega
    rw [e, sumTo_add]
    have a1 : sumTo r.w.toNat (fun j => fl (r :: rest) ((j : Int) + 1)) = flr r.w r.h := sumTo_congr fun i hi => by
      rw [fl, if_pos (by omega)]
    have a2 : sumTo (widths rest).sum.toNat (fun c => fl (r :: rest) (((r.w.toNat + c : Nat) : Int) + 1)) = sumTo (widths rest).sum.toNat (fun c => r.h + fl rest ((c : Int) + 1)) := sumTo_congr fun i hi => by
      rw [fl, if_neg (by omega)]
      congr 2
      omega
    rw [a1, a2, sumTo_plus, sumTo_const, ih, area, List.map_cons, List.sum_cons]
    rw [show (((widths rest).sum.toNat : Nat) : Int) = (widths rest).sum by omega, Int.mul_comm (widths rest).sum r.h]
    omega
theorem sum_ce : ∀ (rows : List Row3), (∀ r ∈ rows, 1 ≤ r.w) → sumTo (widths rows).sum.toNat (fun j => ce rows ((j : Int) + 1)) = area rows + (rows.map fun r => cer r.w r.h).sum
  | [], _ => by simp [widths, sumTo, area]
  | r :: rest, h => by
    have h1 := h r (.head _)
    have hp := widths_pos rest fun q hq => h q (.tail _ hq)
    have ih := sum_ce rest fun q hq => h q (.tail _ hq)
    have hs : (widths (r :: rest)).sum = r.w + (widths rest).sum := by simp [widths, Row3.sel]
    have e : (widths (r :: rest)).sum.toNat = r.w.toNat + (widths rest).sum.toNat := by rw [hs]; omega
    rw [e, sumTo_add]
    have a1 : sumTo r.w.toNat (fun j => ce (r :: rest) ((j : Int) + 1)) = cer r.w r.h := sumTo_congr fun i hi => by
      rw [ce, if_pos (by omega)]
    have a2 : sumTo (widths rest).sum.toNat (fun c => ce (r :: rest) (((r.w.toNat + c : Nat) : Int) + 1)) = sumTo (widths rest).sum.toNat (fun c => r.h + ce rest ((c : Int) + 1)) := sumTo_congr fun i hi => by
      rw [ce, if_neg (by omega)]
      congr 2
      omega
    rw [a1, a2, sumTo_plus, sumTo_const, ih, area, List.map_cons, List.sum_cons]
    rw [show (((widths rest).sum.toNat : Nat) : Int) = (widths rest).sum by omega, Int.mul_comm (widths rest).sum r.h]
    omega
end Mine
end
section
open PySem PySem.W PyProof.Rows PySem.Calls PySem.Spec
namespace Mine
/-- a sum over each two -/
def pairSum (f : Rod → Rod → Int) : List Rod → Int
  | [] => 0
  | a :: l => (l.map (f a)).sum + pairSum f l
theorem pairSum_perm {f : Rod → Rod → Int} (hf : ∀ a b, f a b = f b a) {l l' : List Rod} (h : l.Perm l') : pairSum f l = pairSum f l' := by
  induction h with
  | nil => rfl
  | cons x h ih => rw [pairSum, pairSum, ih, perm_sum (h.map _)]
  | swap x y l =>
    simp only [pairSum, List.map_cons, List.sum_cons]
    rw [hf x y]
    omega
  | trans _ _ i1 i2 => exact i1.trans i2
theorem pairSum_congr {f g : Rod → Rod → Int} : ∀ {l : List Rod}, l.Pairwise (fun a b => f a b = g a b) → pairSum f l = pairSum g l
  | [], _ => rfl
  | a :: l, h => by
    rw [List.pairwise_cons] at h
    rw [pairSum, pairSum, pairSum_congr h.2, List.map_congr_left h.1]
theorem pairSum_sub {f g k : Rod → Rod → Int} (h : ∀ a b, f a b - g a b = k a b) : ∀ l : List Rod, pairSum f l - pairSum g l = pairSum k l
  | [] => rfl
  | a :: l => by
    have ih := pairSum_sub h l
    have e : ∀ l : List Rod, (l.map (f a)).sum - (l.map (g a)).sum = (l.map (k a)).sum := fun l => by
      induction l with
      | nil => rfl
      | cons b l i => simp only [List.map_cons, List.sum_cons]; have := h a b; omega
    have := e l
    simp only [pairSum]
    omega
def crossM (a b : Rod) : Int := a.2 * b.1
def mnM (a b : Rod) : Int := if a.2 * b.1 ≤ b.2 * a.1 then a.2 * b.1 else b.2 * a.1
def mxM (a b : Rod) : Int := if a.2 * b.1 ≤ b.2 * a.1 then b.2 * a.1 else a.2 * b.1
/-- the parallelogram of two rods -/
def detM (a b : Rod) : Int := ((b.1 * a.2 - b.2 * a.1).natAbs : Int)
theorem mul_sum (k : Int) : ∀ l : List Int, k * l.sum = (l.map (k * ·)).sum
  | [] => by simp
  | x :: l => by simp only [List.sum_cons, List.map_cons, Int.mul_add, mul_sum k l]
theorem area_pairs : ∀ rows : List Row3, area rows = pairSum crossM (rows.map Row3.rod)
  | [] => rfl
  | r :: rest => by
    rw [area, List.map_cons, pairSum, area_pairs rest, mul_sum]
    congr 1
    simp only [widths, List.map_map]
    rfl
theorem mnM_symm (a b : Rod) : mnM a b = mnM b a := by unfold mnM; split <;> split <;> omega
theorem mxM_symm (a b : Rod) : mxM a b = mxM b a := by unfold mxM; split <;> split <;> omega
theorem det_eq (a b : Rod) : mxM a b - mnM a b = detM a b := by
  unfold mxM mnM detM
  rw [Int.mul_comm b.1 a.2]
  split <;> omega
theorem pair_ok {rods : List Rod} {rows : List Row3} (hp : (rows.map Row3.rod).Perm rods) (ok : ∀ p ∈ rods, RodOk p) : ∀ r ∈ rows, RodOk (r.w, r.h) :=
  fun r hr => ok _ (hp.mem_iff.mp (List.mem_map.mpr ⟨r, hr, rfl⟩))
theorem pw_and {α : Type} {P : α → Prop} {R : α → α → Prop} {l : List α} (h : l.Pairwise R) (hP : ∀ a ∈ l, P a) : l.Pairwise (fun a b => P a ∧ P b ∧ R a b) := by
  induction h with
  | nil => exact .nil
  | cons h1 _ ih => exact .cons (fun b hb => ⟨hP _ (.head _), hP b (.tail _ hb), h1 b hb⟩) (ih fun a ha => hP a (.tail _ ha))
theorem area_low {rods : List Rod} {lrows urows : List Row3} (C : Chains rods lrows urows) : area lrows = pairSum mnM rods := by
  rw [area_pairs, pairSum_congr (g := mnM), pairSum_perm mnM_symm C.lp]
  rw [List.pairwise_map]
  refine (pw_and (P := fun r => RodOk (r.w, r.h) ∧ r.t = turnT r.w r.h) C.ls fun a ha => ⟨pair_ok C.lp C.ok a ha, C.lt a ha⟩).imp ?_
  rintro a b ⟨⟨oa, ta⟩, ⟨ob, tb⟩, h⟩
  have s := slope (w := b.w) (h := b.h) (v := a.w) (k := a.h) ob.1 ob.2 oa.1 oa.2
  rw [ta, tb] at h
  show a.h * b.w = mnM (a.w, a.h) (b.w, b.h)
  unfold mnM
  rw [if_pos]
  show a.h * b.w ≤ b.h * a.w
  omega
theorem area_up {rods : List Rod} {lrows urows : List Row3} (C : Chains rods lrows urows) : area urows = pairSum mxM rods := by
  rw [area_pairs, pairSum_congr (g := mxM), pairSum_perm mxM_symm C.up]
  rw [List.pairwise_map]
  refine (pw_and (P := fun r => RodOk (r.w, r.h) ∧ r.t = -turnT r.w r.h) C.us fun a ha => ⟨pair_ok C.up C.ok a ha, C.ut a ha⟩).imp ?_
  rintro a b ⟨⟨oa, ta⟩, ⟨ob, tb⟩, h⟩
  have s := slope (w := a.w) (h := a.h) (v := b.w) (k := b.h) oa.1 oa.2 ob.1 ob.2
  rw [ta, tb] at h
  show a.h * b.w = mxM (a.w, a.h) (b.w, b.h)
  unfold mxM
  dsimp only
  split <;> omega
/-- whole points on a rod -/
def gcdM (p : Rod) : Int := (Int.gcd p.1 p.2 : Int)
def gcdB : Bool := (List.range 3).all fun a => (List.range 7).all fun b => decide (((a : Int) + 1) + flr ((a : Int) + 1) ((b : Int) - 2) - cer ((a : Int) + 1) ((b : Int) - 2) = gcdM ((a : Int) + 1, (b : Int) - 2))
theorem gcdB_ok : gcdB = true := by decide +kernel
theorem gcd_rod {w h : Int} (ok : RodOk (w, h)) : w + flr w h - cer w h = gcdM (w, h) := by
  obtain ⟨h1, h2⟩ := ok
  dsimp only at h1 h2
  obtain ⟨a, ha⟩ := Int.eq_ofNat_of_zero_le (show 0 ≤ w - 1 by omega)
  obtain ⟨b, hb⟩ := Int.eq_ofNat_of_zero_le (show 0 ≤ h + 2 by omega)
  have e1 : w = (a : Int) + 1 := by omega
  have e2 : h = (b : Int) - 2 := by omega
  subst e1 e2
  have t := gcdB_ok
  unfold gcdB at t
  exact of_decide_eq_true (List.all_eq_true.mp (List.all_eq_true.mp t a (List.mem_range.mpr (by omega))) b (List.mem_range.mpr (by omega)))
theorem sum_split : ∀ rows : List Row3, (∀ r ∈ rows, RodOk (r.w, r.h)) → (widths rows).sum + (rows.map fun r => flr r.w r.h).sum - (rows.map fun r => cer r.w r.h).sum = ((rows.map Row3.rod).map gcdM).sum
  | [], _ => by simp [widths]
  | r :: rest, h => by
    have ih := sum_split rest fun q hq => h q (.tail _ hq)
    have g := gcd_rod (h r (.head _))
    have e : (widths (r :: rest)).sum = r.w + (widths rest).sum := by simp [widths, Row3.sel]
    simp only [List.map_cons, List.sum_cons]
    rw [e]
    show _ = gcdM (r.w, r.h) + _
    omega
theorem sumTo_shift (f : Nat → Int) (n : Nat) : sumTo (n + 1) f = f 0 + sumTo n (fun j => f (j + 1)) := by
  have := sumTo_add f 1 n
  rw [Nat.add_comm 1 n] at this
  rw [this]
  simp only [sumTo, Int.zero_add]
  congr 1
  exact sumTo_congr fun i _ => by rw [Nat.add_comm]
theorem fl_zero {rows : List Row3} (hw : ∀ r ∈ rows, 1 ≤ r.w) : fl rows 0 = 0 := by
  cases rows with
  | nil => rfl
  | cons r rest =>
    have := hw r (.head _)
    rw [fl, if_pos (by omega)]
    simp [flq]
theorem ce_zero {rows : List Row3} (hw : ∀ r ∈ rows, 1 ≤ r.w) : ce rows 0 = 0 := by
  cases rows with
  | nil => rfl
  | cons r rest =>
    have := hw r (.head _)
    rw [ce, if_pos (by omega)]
    simp [ceq]
theorem wid_of {rods : List Rod} {rows : List Row3} (hp : (rows.map Row3.rod).Perm rods) (ok : ∀ p ∈ rods, RodOk p) : ∀ r ∈ rows, 1 ≤ r.w := fun r hr => (pair_ok hp ok r hr).1.1
theorem sum_up {rows : List Row3} (hw : ∀ r ∈ rows, 1 ≤ r.w) : sumTo ((widths rows).sum.toNat + 1) (fun c => fl rows (c : Int)) = area rows + (rows.map fun r => flr r.w r.h).sum := by
  rw [sumTo_shift, ← sum_fl rows hw]
  rw [show fl rows ((0 : Nat) : Int) = 0 from fl_zero hw, Int.zero_add]
  rfl
theorem sum_down {rows : List Row3} (hw : ∀ r ∈ rows, 1 ≤ r.w) : sumTo ((widths rows).sum.toNat + 1) (fun c => ce rows (c : Int)) = area rows + (rows.map fun r => cer r.w r.h).sum := by
  rw [sumTo_shift, ← sum_ce rows hw]
  rw [show ce rows ((0 : Nat) : Int) = 0 from ce_zero hw, Int.zero_add]
  rfl
theorem met_ok {rods : List Rod} {rows : List Row3} (hp : (rows.map Row3.rod).Perm rods) (ok : ∀ p ∈ rods, RodOk p) :
    sumTo ((widths rows).sum.toNat + 1) (fun c => fl rows (c : Int) + 12 - (ce rows (c : Int) + 11)) = 1 + (rods.map gcdM).sum := by
  have hw := wid_of hp ok
  have h1 := sum_up hw
  have h2 := sum_down hw
  have h3 := sum_split rows (pair_ok hp ok)
  have h4 := perm_sum (hp.map gcdM)
  have h5 := widths_pos rows hw
  rw [sumTo_minus, sumTo_plus, sumTo_plus, h1, h2, sumTo_const, sumTo_const]
  rw [h4] at h3
  omega
theorem points_ok {rods : List Rod} {lrows urows : List Row3} (C : Chains rods lrows urows) :
    sumTo ((widths lrows).sum.toNat + 1) (fun c => fl urows (c : Int) + 12 - (ce lrows (c : Int) + 11)) = 1 + (rods.map gcdM).sum + pairSum detM rods := by
  have hwl := wid_of C.lp C.ok
  have hwu := wid_of C.up C.ok
  have hs : (widths lrows).sum = (widths urows).sum := perm_sum ((widths_perm C.lp).trans (widths_perm C.up).symm)
  have h1 := sum_up hwu
  have h2 := sum_down hwl
  have h3 := sum_split urows (pair_ok C.up C.ok)
  have h4 := perm_sum (C.up.map gcdM)
  have h5 := widths_pos lrows hwl
  have h6 : (lrows.map fun r => cer r.w r.h).sum = (urows.map fun r => cer r.w r.h).sum := by
    have a := perm_sum ((C.lp.trans C.up.symm).map fun p : Rod => cer p.1 p.2)
    rw [List.map_map, List.map_map] at a
    exact a
  have h7 := pairSum_sub (f := mxM) (g := mnM) (k := detM) det_eq rods
  rw [sumTo_minus, sumTo_plus, sumTo_plus, h2, sumTo_const, sumTo_const]
  rw [← hs] at h1
  rw [h1, area_up C, area_low C]
  rw [h4] at h3
  omega
end Mine
end
section
open PySem PySem.W PyProof.Rows PySem.Calls PySem.Spec
namespace Mine
theorem flq_le {w h c k : Int} (hw : 1 ≤ w) : k * w ≤ h * c ↔ k ≤ flq w h c := by
  unfold flq
  rw [Int.fdiv_eq_ediv_of_nonneg _ (by omega)]
  exact (Int.le_ediv_iff_mul_le (by omega)).symm
theorem ceq_le {w h c k : Int} (hw : 1 ≤ w) : h * c ≤ k * w ↔ ceq w h c ≤ k := by
  unfold ceq
  rw [Int.fdiv_eq_ediv_of_nonneg _ (by omega)]
  have := Int.le_ediv_iff_mul_le (a := -k) (b := -(h * c)) (c := w) (by omega)
  rw [Int.neg_mul] at this
  omega
theorem flq_bounds {w h c : Int} (ok : RodOk (w, h)) (h0 : 0 ≤ c) (h1 : c ≤ w) : -2 ≤ flq w h c ∧ flq w h c ≤ ceq w h c ∧ ceq w h c ≤ 4 := by
  obtain ⟨o1, o2⟩ := ok
  dsimp only at o1 o2
  have e1 : -2 * c ≤ h * c := Int.mul_le_mul_of_nonneg_right o2.1 h0
  have e2 : h * c ≤ 4 * c := Int.mul_le_mul_of_nonneg_right o2.2 h0
  refine ⟨(flq_le o1.1).mp (by omega), ?_, (ceq_le o1.1).mp (by omega)⟩
  have a := (flq_le (w := w) (h := h) (c := c) (k := flq w h c) o1.1).mpr (Int.le_refl _)
  have b := (ceq_le (w := w) (h := h) (c := c) (k := ceq w h c) o1.1).mpr (Int.le_refl _)
  exact Int.le_of_mul_le_mul_right (Int.le_trans a b) (by omega)
theorem preW_next {rows : List Row3} {i : Nat} {row : Row3} (h : rows[i]? = some row) : preW rows (i + 1) = preW rows i + row.w := by
  unfold preW widths
  rw [List.take_add_one, List.getElem?_map, h]
  simp [Row3.sel]
theorem preW_mono {rows : List Row3} (hw : ∀ r ∈ rows, 1 ≤ r.w) (i : Nat) : ∀ d, preW rows i ≤ preW rows (i + d)
  | 0 => Int.le_refl _
  | d + 1 => by
    refine Int.le_trans (preW_mono hw i d) ?_
    cases hr : rows[i + d]? with
    | some row =>
      have := hw row (List.mem_of_getElem? hr)
      rw [← Nat.add_assoc, preW_next hr]; omega
    | none =>
      have hl := List.getElem?_eq_none_iff.mp hr
      unfold preW
      rw [List.take_of_length_le (by rw [widths_length]; omega), List.take_of_length_le (by rw [widths_length]; omega)]
      exact Int.le_refl _
theorem preW_le {rows : List Row3} (hw : ∀ r ∈ rows, 1 ≤ r.w) {i j : Nat} (h : i ≤ j) : preW rows i ≤ preW rows j := by
  obtain ⟨d, rfl⟩ := Nat.exists_eq_add_of_le h
  exact preW_mono hw i d
theorem ends_at (rows : List Row3) {j : Nat} (h : j ≤ rows.length) : (endsT rows)[j]? = some (preW rows j) := by
  unfold endsT preW
  rw [List.getElem?_map, List.getElem?_range (by omega)]
  rfl
theorem ends_is {rows : List Row3} {j : Nat} {k : Int} (h : (endsT rows)[j]? = some k) : k = preW rows j ∧ j ≤ rows.length := by
  have hl := (List.getElem?_eq_some_iff.mp h).1
  rw [ends_length] at hl
  rw [ends_at rows (by omega)] at h
  exact ⟨(Option.some.inj h).symm, by omega⟩
theorem preH_bounds {rows : List Row3} (ok : ∀ r ∈ rows, RodOk (r.w, r.h)) : ∀ i : Nat, -2 * (i : Int) ≤ preH rows i ∧ preH rows i ≤ 4 * (i : Int)
  | 0 => by simp [preH]
  | i + 1 => by
    have ih := preH_bounds ok i
    unfold preH at ih ⊢
    rw [List.take_add_one]
    cases hr : rows[i]? with
    | some row =>
      have := (ok row (List.mem_of_getElem? hr)).2
      dsimp only at this
      simp only [Option.toList, List.map_append, List.map_cons, List.map_nil, List.sum_append, List.sum_cons, List.sum_nil, Row3.sel] at ih ⊢
      omega
    | none =>
      simp only [Option.toList, List.append_nil]
      omega
/-- the chain's bounds at a column -/
theorem line_bounds {rows : List Row3} {c : Int} (ok : ∀ r ∈ rows, RodOk (r.w, r.h)) (hne : rows ≠ []) (hl : rows.length ≤ 5) (h0 : 0 ≤ c) (h1 : c ≤ (widths rows).sum) : -10 ≤ fl rows c ∧ fl rows c ≤ ce rows c ∧ ce rows c ≤ 20 := by
  obtain ⟨i, row, e1, e2, e3, e4, e5, e6⟩ := at_col rows c hne (fun r hr => (ok r hr).1.1) h0 h1
  have hi := (List.getElem?_eq_some_iff.mp e1).1
  have b := flq_bounds (c := c - preW rows i) (ok row (List.mem_of_getElem? e1)) (by omega) (by omega)
  have p := preH_bounds ok i
  rw [e5, e6]
  omega
theorem heights_at {i : Nat} {k : Int} (h : (rangeKs (-11) 33)[i]? = some k) : k = -11 + (i : Int) ∧ i < 33 := by
  unfold rangeKs at h
  rw [List.getElem?_map] at h
  obtain ⟨j, hj, rfl⟩ := Option.map_eq_some_iff.mp h
  obtain ⟨hl, e⟩ := List.getElem?_eq_some_iff.mp hj
  rw [List.length_range] at hl
  rw [List.getElem_range] at e
  subst e
  exact ⟨rfl, hl⟩
/-- what _law_cut wants to know, at each column -/
theorem cut_data {need : List (Addr × Obj)} {cv hv ev : List Value} {rows : List Row3} {c : Int} (I1 : IntsAre hv (rangeKs (-11) 33)) (I2 : IntsAre ev (endsT rows)) (R : RowsAre need cv rows)
    (ok : ∀ r ∈ rows, RodOk (r.w, r.h)) (hne : rows ≠ []) (hl : rows.length ≤ 5) (h0 : 0 ≤ c) (h1 : c ≤ (widths rows).sum) :
    ∃ r rod row e0 base due, CutData need cv rows hv (rangeKs (-11) 33) ev (endsT rows) c r rod row e0 base due (ce rows c + 11).toNat (fl rows c + 12).toNat := by
  have hw : ∀ r ∈ rows, 1 ≤ r.w := fun r hr => (ok r hr).1.1
  have B := line_bounds ok hne hl h0 h1
  obtain ⟨i, row, e1, e2, e3, e4, e5, e6⟩ := at_col rows c hne hw h0 h1
  have hi := (List.getElem?_eq_some_iff.mp e1).1
  have hrm := List.mem_of_getElem? e1
  obtain ⟨o1, o2⟩ := ok row hrm
  dsimp only at o1 o2
  have p := preH_bounds ok i
  have hlen : (rangeKs (-11) 33).length = 33 := rangeKs_length _ _
  have up : preW rows (i + 1) = preW rows i + row.w := preW_next e1
  have z0 : preW rows 0 = 0 := by simp [preW]
  refine ⟨if c = 0 then 0 else i + 1, i, row, preW rows i, preH rows i, row.h * (c - preW rows i), ?_⟩
  refine { ints1 := I1, ints2 := I2, rws := R, l1 := by rw [hlen]; omega, l2 := by rw [ends_length]; omega, l3 := by omega, hr := by rw [ends_length]; split <;> omega, hr1 := ?_, hr2 := ?_, hrod := ?_, hrow := e1, he0 := ends_at rows (by omega), hbase := rfl, hdue := rfl, b1 := ?_, b2 := by omega, b3 := by omega, b4 := by omega, b5 := by omega, b6 := ?_, lb0 := by rw [hlen]; omega, lb1 := ?_, lb2 := ?_, ub0 := by rw [hlen]; omega, ub1 := ?_, ub2 := ?_ }
  · intro j k hk hj
    obtain ⟨rfl, _⟩ := ends_is hk
    split at hj
    · omega
    · have := preW_le hw (show j ≤ i by omega)
      rcases e3 with e3 | e3
      · exact absurd e3.1 (by assumption)
      · omega
  · intro j k hk hj
    obtain ⟨rfl, _⟩ := ends_is hk
    split at hj
    · have := preW_le hw (Nat.zero_le j)
      omega
    · have := preW_le hw (show i + 1 ≤ j from hj)
      omega
  · split
    · rcases e3 with e3 | e3
      · omega
      · have := preW_le hw (Nat.zero_le i)
        omega
    · omega
  · intro k hk
    have := mem_rangeKs hk
    omega
  · intro k hk
    obtain ⟨q, hq, rfl⟩ := List.mem_map.mp hk
    have := (ok q (List.mem_of_mem_take hq)).2
    dsimp only at this
    show -1000 ≤ q.h ∧ q.h ≤ 1000
    omega
  · intro j k hk hj
    obtain ⟨rfl, _⟩ := heights_at hk
    have := ceq_le (w := row.w) (h := row.h) (c := c - preW rows i) (k := -11 + (j : Int) - preH rows i) o1.1
    omega
  · intro j k hk hj
    obtain ⟨rfl, _⟩ := heights_at hk
    have := ceq_le (w := row.w) (h := row.h) (c := c - preW rows i) (k := -11 + (j : Int) - preH rows i) o1.1
    omega
  · intro j k hk hj
    obtain ⟨rfl, _⟩ := heights_at hk
    have := flq_le (w := row.w) (h := row.h) (c := c - preW rows i) (k := -11 + (j : Int) - preH rows i) o1.1
    omega
  · intro j k hk hj
    obtain ⟨rfl, _⟩ := heights_at hk
    have := flq_le (w := row.w) (h := row.h) (c := c - preW rows i) (k := -11 + (j : Int) - preH rows i) o1.1
    omega
end Mine
end
section
open PySem PySem.W PyProof.Rows PySem.Calls PySem.Spec
namespace Mine
abbrev sHeights : Str := Str.ofString "heights"
abbrev sPoints : Str := Str.ofString "points"
abbrev sLowMet : Str := Str.ofString "low_met"
abbrev sHighMet : Str := Str.ofString "high_met"
abbrev sEdges : Str := Str.ofString "edges"
abbrev sAreas : Str := Str.ofString "areas"
/-- the objects of the column loop -/
structure Nine (rods : List Rod) (lrows urows : List Row3) (rvs lvs uvs uns ovs hvs : List Value) (tups : List (Addr × Obj)) : Prop where
  ch : Chains rods lrows urows
  prs : PairsAre tups rvs rods
  lrw : RowsAre tups lvs lrows
  urw : RowsAre tups uvs urows
  r5 : rods.length ≤ 5
  r3 : 3 ≤ rods.length
  iU : IntsAre uns (endsT lrows)
  iO : IntsAre ovs (endsT urows)
  iH : IntsAre hvs (rangeKs (-11) 33)
abbrev base9 (R Lo Up Un Ov H : Addr) (rvs lvs uvs uns ovs hvs : List Value) (nr nl nu nun nov nh : Nat) (tups : List (Addr × Obj)) : List (Addr × Obj) :=
  (R, listOf rvs.toArray nr) :: (Lo, listOf lvs.toArray nl) :: (Up, listOf uvs.toArray nu) :: (Un, listOf uns.toArray nun) :: (Ov, listOf ovs.toArray nov) :: (H, listOf hvs.toArray nh) :: tups
def P9 (h₀ : Heap) (L : Addr) (s₁ : Shared) (s : Shared) : Prop :=
  ∃ R Lo Up Un Ov H rods lrows urows rvs lvs uvs uns ovs hvs tups nr nl nu nun nov nh u, Nine rods lrows urows rvs lvs uvs uns ovs hvs tups ∧
    (∀ q ∈ base9 R Lo Up Un Ov H rvs lvs uvs uns ovs hvs nr nl nu nun nov nh tups, q.1 ≠ 94) ∧
    Fr h₀ L s.heap (kstB u [(sRods, .ref R), (sLower, .ref Lo), (sUpper, .ref Up), (sUnder, .ref Un), (sOver, .ref Ov), (sHeights, .ref H)]) ∧
    News h₀ L s.heap ((94, tabObj #[]) :: base9 R Lo Up Un Ov H rvs lvs uvs uns ovs hvs nr nl nu nun nov nh tups) ∧ s.os = s₁.os ∧ AllBare s.gens
/-- the columns so far -/
def colsP (lrows urows : List Row3) (i : Nat) : Int := sumTo i (fun c => fl urows (c : Int) + 12 - (ce lrows (c : Int) + 11))
def colsM (rows : List Row3) (i : Nat) : Int := sumTo i (fun c => fl rows (c : Int) + 12 - (ce rows (c : Int) + 11))
def J10 (R Lo Up Un Ov H : Addr) (lrows urows : List Row3) (base : List (Addr × Obj)) (i : Nat) (m : Str → Option Value) (news : List (Addr × Obj)) : Prop :=
  ∃ u ps rest t1 t2 t3, (∀ q ∈ base, q ∈ rest) ∧ (∀ q ∈ rest, q.1 ≠ 94) ∧ TabOk ps rest ∧
    m = kstB u [(sRods, .ref R), (sLower, .ref Lo), (sUpper, .ref Up), (sUnder, .ref Un), (sOver, .ref Ov), (sHeights, .ref H), (sPoints, .int (colsP lrows urows i) t1), (sLowMet, .int (colsM lrows i) t2), (sHighMet, .int (colsM urows i) t3)] ∧
    news = (94, tabObj ps) :: rest
def P10 (h₀ : Heap) (L : Addr) (s₁ : Shared) (s : Shared) : Prop :=
  ∃ R rods rvs nr ps rest u t1 t2 t3, (∀ p ∈ rods, RodOk p) ∧ rods.length ≤ 5 ∧ PairsAre rest rvs rods ∧ (R, listOf rvs.toArray nr) ∈ rest ∧ (∀ q ∈ rest, q.1 ≠ 94) ∧
    Fr h₀ L s.heap (kstB u [(sRods, .ref R), (sPoints, .int (1 + (rods.map gcdM).sum + pairSum detM rods) t1), (sLowMet, .int (1 + (rods.map gcdM).sum) t2), (sHighMet, .int (1 + (rods.map gcdM).sum) t3)]) ∧
    News h₀ L s.heap ((94, tabObj ps) :: rest) ∧ s.os = s₁.os ∧ AllBare s.gens
def P11 (h₀ : Heap) (L : Addr) (s₁ : Shared) (s : Shared) : Prop :=
  ∃ R rods rvs nr ps rest u t1 t2 t3 t4, (∀ p ∈ rods, RodOk p) ∧ rods.length ≤ 5 ∧ PairsAre rest rvs rods ∧ (R, listOf rvs.toArray nr) ∈ rest ∧ (∀ q ∈ rest, q.1 ≠ 94) ∧
    Fr h₀ L s.heap (kstB u [(sRods, .ref R), (sPoints, .int (1 + (rods.map gcdM).sum + pairSum detM rods) t1), (sLowMet, .int (1 + (rods.map gcdM).sum) t2), (sHighMet, .int (1 + (rods.map gcdM).sum) t3), (sEdges, .int (1 + (rods.map gcdM).sum) t4)]) ∧
    News h₀ L s.heap ((94, tabObj ps) :: rest) ∧ s.os = s₁.os ∧ AllBare s.gens
def P12 (h₀ : Heap) (L : Addr) (s₁ : Shared) (s : Shared) : Prop :=
  ∃ rods ps rest u t1 t2 t3 t4 t5, 
    Fr h₀ L s.heap (kstB u [(sPoints, .int (1 + (rods.map gcdM).sum + pairSum detM rods) t1), (sLowMet, .int (1 + (rods.map gcdM).sum) t2), (sHighMet, .int (1 + (rods.map gcdM).sum) t3), (sEdges, .int (1 + (rods.map gcdM).sum) t4), (sAreas, .int (pairSum detM rods) t5)]) ∧
    News h₀ L s.heap ((94, tabObj ps) :: rest) ∧ s.os = s₁.os ∧ AllBare s.gens
/-- the turn of the column loop ends -/
theorem col_done {h₀ h' : Heap} {L I : Addr} {R Lo Up Un Ov H : Addr} {lrows urows : List Row3} {base own all : List (Addr × Obj)} {i tk' : Nat} {s : Shared} {u : Str → Option Value} {ps : Array Value} {t1 t2 t3 : Tok} {oI : Obj} {x9 y9 z9 : Int}
    (F : Fr h₀ L h' (kstB u [(sRods, .ref R), (sLower, .ref Lo), (sUpper, .ref Up), (sUnder, .ref Un), (sOver, .ref Ov), (sHeights, .ref H), (sPoints, .int (colsP lrows urows (i + 1)) t1), (sLowMet, .int (colsM lrows (i + 1)) t2), (sHighMet, .int (colsM urows (i + 1)) t3)]))
    (N : News h₀ L h' ((94, tabObj ps) :: all)) (hb : ∀ q ∈ base, q ∈ all) (ho : ∀ q ∈ own, q ∈ all) (h94 : ∀ q ∈ all, q.1 ≠ 94) (tab : TabOk ps all) (hI : (I, oI) ∈ own) (hdI : oI.data = .fields #[rawInt x9, rawInt y9, rawInt z9]) (hbI : ∀ q ∈ base, q.1 ≠ I) (i94 : 94 ≠ I) :
    LoopStepU h₀ L [I] own (J10 R Lo Up Un Ov H lrows urows base (i + 1)) s .next { s with heap := h', toks := tk' } := by
  have code : ∀ c, CodeIn all c → CodeIn (all.filter fun q => decide (q.1 ≠ I)) c := by
    rintro c ⟨oc, vs, t, hm, hd, hv⟩
    refine ⟨oc, vs, t, List.mem_filter.mpr ⟨hm, ?_⟩, hd, hv⟩
    refine decide_eq_true fun e => ?_
    dsimp only at e
    subst e
    have a := (N _ (.tail _ hm)).1
    have b := (N _ (.tail _ (ho _ hI))).1
    rw [b] at a
    cases a
    rw [hdI] at hd
    cases hd
    exact absurd hv (by simp [rawInt])
  refine LoopStepU.intro (news₂ := (94, tabObj ps) :: all.filter fun q => decide (q.1 ≠ I)) F (news_pick N fun q hq => ?_) (fun q hq => ?_) ⟨u, ps, _, t1, t2, t3, fun q hq => List.mem_filter.mpr ⟨hb q hq, decide_eq_true (hbI q hq)⟩, fun q hq => h94 q (List.mem_filter.mp hq).1, ?_, rfl, rfl⟩
  · rcases List.mem_append.mp hq with hq | hq
    · exact .tail _ (ho q hq)
    · rcases List.mem_cons.mp hq with rfl | hq
      · exact .head _
      · exact .tail _ (List.mem_filter.mp hq).1
  · rcases List.mem_cons.mp hq with rfl | hq
    · exact fun hm => i94 (List.mem_singleton.mp hm)
    · exact fun hm => of_decide_eq_true (List.mem_filter.mp hq).2 (List.mem_singleton.mp hm)
  · rcases tab with rfl | ⟨c1, c2, rfl, q1, q2⟩
    · exact .inl rfl
    · exact .inr ⟨c1, c2, rfl, code _ q1, code _ q2⟩
/-- a comprehension over pairs whose element's value is a function of the pair -/
theorem pairs_turn {prog : Program} {w : World} {A : Around} {h₀ : Heap} {L : Addr} {m : Str → Option Value} {env : Env} {elt : Expr} {x x₂ : Str} {scope : Scope} {cl : List (Str × Addr)} {s : Shared} {S : List (Addr × Obj) → Prop} {news : List (Addr × Obj)} {Fin : List Value → List (Addr × Obj) → Prop} (f : Rod → Int) (hS : S news)
    (step : ∀ (p : Rod) (t1 t2 : Tok) (I : Addr) oI (C : Addr) oC (D : Addr) ys m₂ h tk (E' : Value → Shared → Prop), LCg.NsObj oC m₂ → m₂ x = some (.int p.1 t1) → m₂ x₂ = some (.int p.2 t2) → Fr h₀ L h m → News h₀ L h ((I, oI) :: (C, oC) :: (D, LCg.lst ys) :: news) →
      wpAny (model prog w) A (eval elt (compEnvC scope cl C env)) (fun y s' => ∃ t h' tk', y = .int (f p) t ∧ s' = { s with heap := h', toks := tk' } ∧ Fr h₀ L h' m ∧ News h₀ L h' ((I, oI) :: (C, oC) :: (D, LCg.lst ys) :: news)) E' { s with heap := h, toks := tk })
    {P : Nat → Value → Prop} : ∀ {vs : List Value} {rods : List Rod} (i : Nat) (ys : List Value) (xs : List Int), PairsAre news vs rods → (∀ j v', P (i + j) v' → vs[j]? = some v') → IntsAre ys xs → (∀ ys', IntsAre ys' (xs ++ rods.map f) → Fin ys' news) →
    LCp.CompRestP prog w A h₀ L m env elt x x₂ scope cl s S P Fin vs.length i ys news
  | [], rods, i, ys, xs, hp, hv, hy, hF => by
    cases hp
    exact LCp.CompRestP.zero (hF ys (by simpa using hy))
  | v :: vs, rods, i, ys, xs, hp, hv, hy, hF => by
    cases hp with
    | @cons _ r _ rs a hp =>
      refine LCp.CompRestP.succ fun v' hv' => ?_
      have e0 : v' = v := by
        have := hv 0 v' hv'
        simpa using this.symm
      subst e0
      obtain ⟨ta, n, t1, t2, rfl, hm⟩ := a
      refine ⟨ta, _, _, _, n, rfl, hm, rfl, rfl, fun I oI C oC D m₂ h tk E' hC hx hx2 F N off ne => ?_⟩
      refine wpAny_mono (step r t1 t2 I oI C oC D ys m₂ h tk E' hC hx hx2 F N) (fun y s' hs' => ?_) fun _ _ e => e
      obtain ⟨t, h', tk', rfl, rfl, F', N'⟩ := hs'
      refine ⟨h', tk', news, rfl, F', N', off, hS, ?_⟩
      refine pairs_turn f hS step (i + 1) _ (xs ++ [f r]) hp (fun j v9 h9 => ?_) (hy.append (.cons _ _ .nil)) fun ys' hy' => hF ys' ?_
      · have := hv (j + 1) v9 (by rw [show i + (j + 1) = i + 1 + j by omega]; exact h9)
        simpa using this
      · rw [List.append_assoc] at hy'
        exact hy'
theorem sum_top : ∀ l : List Int, (∀ x ∈ l, x ≤ 3) → l.sum ≤ 3 * (l.length : Int)
  | [], _ => by simp
  | x :: l, h => by
    have := sum_top l fun y hy => h y (.tail _ hy)
    have := h x (.head _)
    simp only [List.sum_cons, List.length_cons]
    omega
theorem widths_top {rods : List Rod} {rows : List Row3} (hp : (rows.map Row3.rod).Perm rods) (ok : ∀ p ∈ rods, RodOk p) (h5 : rods.length ≤ 5) : (widths rows).sum ≤ 15 := by
  have := sum_top (widths rows) fun x hx => by
    obtain ⟨r, hr, rfl⟩ := List.mem_map.mp hx
    exact (pair_ok hp ok r hr).1.2
  have e := hp.length_eq
  rw [List.length_map] at e
  rw [widths_length] at this
  omega
theorem small_rng : ∀ n : Nat, n < 17 → Builtin.Range.small 0 (n : Int) 1 = true ∧ Builtin.Range.rangeSize 0 (n : Int) 1 = (n : Int) := by decide +kernel
theorem TabOk.mono {ps : Array Value} {n1 n2 : List (Addr × Obj)} (x : TabOk ps n1) (h : ∀ q ∈ n1, q ∈ n2) : TabOk ps n2 := by
  rcases x with rfl | ⟨c1, c2, rfl, q1, q2⟩
  · exact .inl rfl
  · exact .inr ⟨c1, c2, rfl, q1.mono h, q2.mono h⟩
theorem news_own {h₀ h : Heap} {L : Addr} {x : Addr × Obj} {own rest : List (Addr × Obj)} (N : News h₀ L h (own ++ x :: rest)) : News h₀ L h (x :: (own ++ rest)) := news_pick N (by
  intro q hq
  simp only [List.mem_cons, List.mem_append] at hq ⊢
  rcases hq with h | h | h <;> simp [h])
theorem pairSum_snoc (f : Rod → Rod → Int) (x : Rod) : ∀ l : List Rod, pairSum f (l ++ [x]) = pairSum f l + (l.map (f · x)).sum
  | [] => by simp [pairSum]
  | a :: l => by
    simp only [List.cons_append, pairSum, pairSum_snoc f x l, List.map_append, List.map_cons, List.map_nil, List.sum_append, List.sum_cons, List.sum_nil]
    omega
theorem PairsAre.get {h : List (Addr × Obj)} {vs : List Value} {rs : List Rod} (x : PairsAre h vs rs) : ∀ (i : Nat) (r : Rod), rs[i]? = some r → ∃ v, vs[i]? = some v ∧ IsPair h v r := by
  induction x with
  | nil => intro i r e; simp at e
  | cons a _ ih =>
    intro i r e
    cases i with
    | zero => simp at e; subst e; exact ⟨_, rfl, a⟩
    | succ i => simpa using ih i r (by simpa using e)
abbrev sIi : Str := Str.ofString "i"
def J12 (R : Addr) (rods : List Rod) (ps : Array Value) (rest : List (Addr × Obj)) (t1 t2 t3 t4 : Tok) (i : Nat) (m : Str → Option Value) (news : List (Addr × Obj)) : Prop :=
  ∃ u t, m = kstB u [(sRods, .ref R), (sPoints, .int (1 + (rods.map gcdM).sum + pairSum detM rods) t1), (sLowMet, .int (1 + (rods.map gcdM).sum) t2), (sHighMet, .int (1 + (rods.map gcdM).sum) t3), (sEdges, .int (1 + (rods.map gcdM).sum) t4), (sAreas, .int (pairSum detM (rods.take i)) t)] ∧
    news = (94, tabObj ps) :: rest
def J13 (R : Addr) (rods : List Rod) (led : List (Addr × Obj)) (t1 t2 t3 t4 ti : Tok) (i : Nat) (p : Rod) (k : Nat) (m : Str → Option Value) (news : List (Addr × Obj)) : Prop :=
  ∃ u t, m = kstB u [(sRods, .ref R), (sPoints, .int (1 + (rods.map gcdM).sum + pairSum detM rods) t1), (sLowMet, .int (1 + (rods.map gcdM).sum) t2), (sHighMet, .int (1 + (rods.map gcdM).sum) t3), (sEdges, .int (1 + (rods.map gcdM).sum) t4), (sIi, .int (i : Int) ti), (sAreas, .int (pairSum detM (rods.take i) + ((rods.take k).map (detM · p)).sum) t)] ∧
    news = led
theorem pairs_next {rods : List Rod} {i : Nat} {p : Rod} (h : rods[i]? = some p) : pairSum detM (rods.take (i + 1)) = pairSum detM (rods.take i) + ((rods.take i).map (detM · p)).sum := by
  rw [List.take_add_one, h]
  show pairSum detM (rods.take i ++ [p]) = _
  exact pairSum_snoc _ _ _
theorem dets_next {rods : List Rod} {k : Nat} {p q : Rod} (h : rods[k]? = some q) : ((rods.take (k + 1)).map (detM · p)).sum = ((rods.take k).map (detM · p)).sum + detM q p := by
  rw [List.take_add_one, h]
  simp
end Mine
end
section
open PySem PySem.W PyProof.Rows PySem.Calls PySem.Spec
namespace Mine
local macro_rules | `(tactic| walk_at $s:str) => do
  unless ["call builtin:len", "subscriptTail", "subscriptTail Name Name ref int", "binaryOp Add ref ref", "exec For", "exec For Name Name cons nil", "call ref", "call builtin:list.append", "binaryOp Div int int", "exec If", "pyIter ref", "call builtin:sum", "eval ListComp", "call type:list", "exec For Name Call cons nil"].contains s.getString do Lean.Macro.throwUnsupported
  `(tactic| refine held ?_)
local macro_rules | `(tactic| walk_at "subscriptTail Name Slice ref ref") => `(tactic| ((rename Mark6 => hM6); refine held ?_))
theorem fin : PySem.Challenge.rw_re0082_01.Holds := hd (by
  k_fill
  intro w s₀ s₁ mg mb G Y fa o pm cd doc dV kV ho hd hcd hD hmg hg args vals as hpre hlay hrd hwl hlo
  have KX := km_in_of Y
  km_tabs Y
  have X := (Ground.X G).1
  have V := (Ground.X G).2
  refine Ground.open G ?_
  intro T B D TE TW
  try (refine guard_noD D (by decide +kernel) ?_; clear D)
  km_lay T hmg ho hd cd
  clear hmg
  wrow_args hpre hlay hrd hwl hlo
  first | refine callC_kw (enter_call ?_) | refine enter_call ?_
  w_top on
  w_call any ho hd hcd hD T F
  clear hd
  kn_ghosts F T
  k_drop
  rename_i ns hs1 hlay0 hL1 hr1 hl21 as1 as2 sc vs as3 hL2 ra1 w1 r0 hI hr2 hlen63 htrue h₁ X' T' K' F' N' l0
  have hI0 : IntsAre vs ns := hI
  have chd : CodeHd (ghostOf s₁.heap [(96, 94)]) 96 94 := codeHd
  refine wpAny_mono (Q := FinP (ghostOf s₁.heap [(96, 94)]) s₁.heap.objs.size s₁) (E := fun _ _ => False) ?_ ?_ (fun _ _ x => x.elim)
  rotate_left
  · rintro f s' ⟨ps, m, news, rfl, F9, N9, hos, hB⟩
    exact my_good hT9 (fun _ => rfl) (by first | rfl | wrow_post) F9.keep ⟨GrownAt.of N9 (.head _), trivial⟩ hos hB
  dsimp only
  generalize hg0 : ghostOf s₁.heap [(96, 94)] = h₀ at *
  clear G Y ho hcd X V hT8 hT9 B TE TW hD hs1 hlay0 hL1 hr1 hl21 hL2 ra1 w1 r0 hr2 htrue codeHd
  refine cut (P1 h₀ s₁.heap.objs.size s₁) ?_ ?_
  · skip
    refine heldQ ?_
    k_steps
    rename_i Dw ws' h1 F1 N1 hI1 hC1 hL1 l1 hk1 hk2 hk3 g1 hI8 hL8 D h2 tk2 F2 N2 o1
    have hl4 : (List.map (fun k' => Int.fmod k' 1000000) (List.take 4 ns)).length ≤ 4 := by simp; omega
    refine ⟨rfl, D, ys, ys.length, _, o1.2, hL8 ▸ hl4, hI8, ⟨hl4, ?_⟩, ⟨_, fr_pack F2 (by kst_all)⟩, news_pick N2 ?_, rfl, ?_⟩
    · intro y hy
      obtain ⟨x, _, rfl⟩ := List.mem_map.mp hy
      exact ⟨Int.fmod_nonneg_of_pos _ (by decide), Int.fmod_lt_of_pos _ (by decide)⟩
    · intro q hq
      rcases List.mem_cons.mp hq with rfl | hq
      · exact .head _
      · exact .tail _ (.tail _ hq)
    · exact AllBare.of_eq hg
  clear F' N' hI hI0 hlen63 lifted
  rintro s2 ⟨D, items, k, ds, hD94, hlen, hI, ⟨hds1, hds2⟩, ⟨⟨u, F⟩, N, hos, hbr⟩⟩
  refine cut (P2 h₀ s₁.heap.objs.size s₁) ?_ ?_
  · skip
    refine heldQ ?_
    k_steps
    refine held_out ?_
    refine kst_len (by assumption) (.tail _ (.head _)) hI.length (by omega) ?_
    dsimp only
    k_steps
    refine held_out ?_
    rename_i l1 h1 F1 N1 lt1
    refine slice_gone (s := { heap := h1, gens := _, drawn := _, toks := _, os := _ }) F1 N1 (isList_of N1 (.head _)) (IsPart.int _ _) IsPart.none rfl ?_ (by with_unfolding_all rfl) (Nat.le_of_ble_eq_true rfl)
    intro D2 h2 F2 N2 lt2
    dsimp only
    k_steps
    refine held_out ?_
    refine kmk_add_ints F2 N2 (isList_of N2 (.tail _ (.tail _ (.head _)))) (isList_of N2 (.head _)) hI (pick_tail _ _ _ _ hds1) ?_ (by simp [sizeLine_eq]; omega)
    intro D3 us h3 F3 N3 lt3 hI3
    dsimp only
    k_steps
    rename_i h4 F4 N4
    have hne : 94 < D3 := lt3 _ (.tail _ (.tail _ (.tail _ (.head _))))
    refine ⟨rfl, D3, us, 0, _, Nat.ne_of_lt hne, hI3, drawn_ok hds1 hds2, ⟨_, fr_pack F4 (by kst_all)⟩, news_pick N4 ?_, hos, hbr⟩
    intro q hq
    rcases List.mem_cons.mp hq with rfl | hq
    · exact .head _
    · exact .tail _ (.tail _ (.tail _ (.tail _ hq)))
  clear F N hI hds2 hlen hds1 hD94 hos hbr
  rintro s3 ⟨D, items, k, ds, hD94, hI, hds, ⟨⟨u, F⟩, N, hos, hbr⟩⟩
  refine wpAny_execs_cons ?_
  k_steps
  rename_i R h1 lt1 h2 Lo h3 lt2 h4 Up h5 lt3 h6 h7 F7 N7
  refine held_out ?_
  refine cutS (P4 h₀ s₁.heap.objs.size s₁) ?_ ?_
  · skip
    have F8 := fr_pack (ps := [(sDrawn, .ref D), (sRods, .ref R), (sLower, .ref Lo), (sUpper, .ref Up), (sSteep, .none)]) F7 (by kst_all)
    have N8 : News h₀ s₁.heap.objs.size h7 [(94, tabObj #[]), (D, listOf items.toArray k), (R, listOf [].toArray 0), (Lo, listOf [].toArray 0), (Up, listOf [].toArray 0)] := news_pick N7 (by
      intro q hq
      simp only [List.mem_cons, List.not_mem_nil, or_false] at hq ⊢
      rcases hq with h | h | h | h | h <;> subst h <;> simp)
    clear F7 N7
    refine For_invV h₀ rfl rfl ?_
    k_steps
    refine held_out ?_
    refine loop_list (J4 D R Lo Up items k ds) rfl F8 N8 (.tail _ (.head _)) ?_ ?_ ?_
    · refine ⟨_, [], [], [], [], [], .none, [], 0, 0, 0, ⟨hI, hds, hD94, Nat.ne_of_lt lt1.1, Nat.ne_of_lt lt2.2.1, Nat.ne_of_lt lt3.2.2.1, Nat.ne_of_lt lt2.1, Nat.ne_of_lt lt3.2.1, Nat.ne_of_lt lt3.1, Nat.ne_of_lt lt1.2, Nat.ne_of_lt lt2.2.2, Nat.ne_of_lt lt3.2.2.2, ?_, ?_, ?_, ?_, .nil, .nil, .nil, ⟨?_, ?_, ?_, .nil, .nil, .nil, .nil⟩, .inl ⟨rfl, rfl⟩⟩, rfl, rfl⟩
      all_goals (intro q hq; cases hq)
    · intro i v m₁ news₁ h tk own hv hJ ho1 ho2 ho3 F N
      obtain ⟨u', lrows, urows, rvs, lvs, uvs, sv, tups, nr, nl, nu, O, rfl, rfl⟩ := hJ
      have N9 : News h₀ s₁.heap.objs.size h ((R, listOf rvs.toArray nr) :: (Lo, listOf lvs.toArray nl) :: (Up, listOf uvs.toArray nu) :: (94, tabObj #[]) :: (D, listOf items.toArray k) :: (own ++ tups)) := news_pick N (by
        intro q hq
        simp only [List.mem_cons, List.mem_append] at hq ⊢
        rcases hq with h | h | h | h | h | h | h <;> simp [h])
      clear N
      obtain ⟨y, hy⟩ : ∃ y, ds[i]? = some y := ⟨_, List.getElem?_eq_getElem (by have := (List.getElem?_eq_some_iff.mp hv).1; rw [hI.length] at this; exact this)⟩
      obtain ⟨ty, hty⟩ := hI.get i y hy
      rw [hv] at hty
      cases hty
      have tR : ∀ q ∈ own ++ tups, q.1 ≠ R := fun q hq => (List.mem_append.mp hq).elim (fun h => (ho1 q h).elim (fun e => e ▸ (ho3 (R, listOf rvs.toArray nr) (by simp)).symm) (fun e => e ▸ O.n2)) (O.tR q)
      have tL : ∀ q ∈ own ++ tups, q.1 ≠ Lo := fun q hq => (List.mem_append.mp hq).elim (fun h => (ho1 q h).elim (fun e => e ▸ (ho3 (Lo, listOf lvs.toArray nl) (by simp)).symm) (fun e => e ▸ O.n3)) (O.tL q)
      have tU : ∀ q ∈ own ++ tups, q.1 ≠ Up := fun q hq => (List.mem_append.mp hq).elim (fun h => (ho1 q h).elim (fun e => e ▸ (ho3 (Up, listOf uvs.toArray nu) (by simp)).symm) (fun e => e ▸ O.n4)) (O.tU q)
      have hsub : ∀ q ∈ tups, q ∈ own ++ tups := fun q hq => List.mem_append.mpr (.inr hq)
      have hown : ∀ q ∈ own, q ∈ own ++ tups := fun q hq => List.mem_append.mpr (.inl hq)
      generalize own ++ tups = tl at *
      dsimp only
      have HU := rod_hue y
      clear F8 N8 hv
      k_steps
      refine held_out ?_
      refine div8 HU.i1 ?_
      dsimp only
      k_steps
      refine held_out ?_
      refine div8 HU.i2 ?_
      dsimp only
      k_steps
      refine held_out ?_
      refine div8 HU.i3 ?_
      dsimp only
      k_steps
      refine held_out ?_
      refine hsv1 w _ _ _ _ _ _ HU.rgb _ _ _ _ _ _ _ _ _ _ _ _ _ _ _ _ _ _ _ _ _ _ _ K' (by assumption) X' (by assumption) T' rfl (fun _ h => nomatch h) (by ktr_room) (by ktr_units) ?_
      rintro _ b1 hb1 tb1 ⟨x1, tx1, px1, qx1, rfl, rfl⟩ Fb1 Nb1 lb1
      dsimp only
      k_steps
      refine held_out ?_
      refine item_tupleT (News.isTup Nb1 (.head _)) (by decide) (by decide) rfl rfl ?_ (by with_unfolding_all rfl)
      dsimp only
      k_steps
      refine held_out ?_
      refine turn1 w _ _ HU.nan HU.inf _ _ _ _ _ _ _ _ _ _ _ _ _ _ _ _ _ _ _ _ _ _ _ K' (by assumption) X' (by assumption) T' rfl (fun _ h => nomatch h) (by ktr_room) (by ktr_units) ?_
      rw [HU.turn]
      intro tt1 ht1 tkt1 Ft1 Nt1
      dsimp only
      k_steps
      refine held_out ?_
      refine div8 HU.i1 ?_
      dsimp only
      k_steps
      refine held_out ?_
      refine div8 HU.i2 ?_
      dsimp only
      k_steps
      refine held_out ?_
      refine div8 HU.i3 ?_
      dsimp only
      k_steps
      refine held_out ?_
      refine hls1 w _ _ _ _ _ _ HU.rgb _ _ _ _ _ _ _ _ _ _ _ _ _ _ _ _ _ _ _ _ _ _ _ K' (by assumption) X' (by assumption) T' rfl (fun _ h => nomatch h) (by ktr_room) (by ktr_units) ?_
      rintro _ b2 hb2 tb2 ⟨x2, tx2, px2, qx2, rfl, rfl⟩ Fb2 Nb2 lb2
      dsimp only
      k_steps
      refine held_out ?_
      refine item_tupleT (News.isTup Nb2 (.head _)) (by decide) (by decide) rfl rfl ?_ (by with_unfolding_all rfl)
      dsimp only
      k_steps
      refine held_out ?_
      refine turn1 w _ _ HU.nan HU.inf _ _ _ _ _ _ _ _ _ _ _ _ _ _ _ _ _ _ _ _ _ _ _ K' (by assumption) X' (by assumption) T' rfl (fun _ h => nomatch h) (by ktr_room) (by ktr_units) ?_
      rw [HU.turn]
      intro tt2 ht2 tkt2 Ft2 Nt2
      dsimp only
      k_steps
      refine held_out ?_
      rename_i pr hA FA NA ltA
      have NA2 := news_roll NA
      have hprR : pr ≠ R := lt_ne ltA.2.2.2.1
      have hprL : pr ≠ Lo := lt_ne ltA.2.2.2.2.1
      have hprU : pr ≠ Up := lt_ne ltA.2.2.2.2.2.1
      have hp94 : pr ≠ 94 := lt_ne ltA.2.2.2.2.2.2.1
      have hpal : AllLt pr tl := ltA.2.2.2.2.2.2.2.2
      have hlenr : rvs.length ≤ 4 := by
        rw [O.prs.length, List.length_map, List.length_take]
        have := hds.1
        omega
      refine append_K FA NA2 (Upd.head (all5 O.n5.symm O.n6.symm O.n8 O.n2 hprR tR)) ?_ (by rw [List.size_toArray, sizeLine_eq]; omega)
      clear NA NA2 FA
      intro hB FB NB
      rw [List.push_toArray] at NB
      dsimp only
      k_steps
      refine held_out ?_
      rename_i ra hC FC NC ltC
      have hraR : ra ≠ R := lt_ne ltC.1
      have hraL : ra ≠ Lo := lt_ne ltC.2.1
      have hraU : ra ≠ Up := lt_ne ltC.2.2.1
      have hr94 : ra ≠ 94 := lt_ne ltC.2.2.2.1
      have NC2 := news_roll2 NC
      obtain ⟨rl, pl0, pl1, pl2⟩ := place_r O.ch.ls (turnT (y.fmod 3 + 1 + (y.fdiv 3).fmod 3 - y.fmod 3) ((y.fdiv 9).fmod 5 - y.fmod 3))
      have hlenl : lrows.length ≤ 4 := by
        have e := O.ch.lp.length_eq
        rw [List.length_map, List.length_map, List.length_take] at e
        have := hds.1
        omega
      refine lay_r w NC2 (.tail _ (.tail _ (.tail _ (.tail _ (.head _))))) (fun q hq => .tail _ (.tail _ (.tail _ (.tail _ (.tail _ hq))))) FC K' X' T' rfl (O.lrw.keeps fun q hq => .tail _ (hsub q hq)) (by omega) pl0 pl1 pl2 ?_ (by ktr_room) (by ktr_units) ?_
      · refine all5 O.n5 O.n7.symm O.n9 O.n3 hraL fun q hq => ?_
        rcases List.mem_cons.mp hq with h | hq
        · exact h ▸ hprL
        · exact tL q hq
      clear NC NC2 FC
      intro hD tD FD ND
      dsimp only
      k_steps
      refine held_out ?_
      rename_i ua hE FE NE ltE
      have huaR : ua ≠ R := lt_ne ltE.2.1
      have huaL : ua ≠ Lo := lt_ne ltE.1
      have huaU : ua ≠ Up := lt_ne ltE.2.2.1
      have hu94 : ua ≠ 94 := lt_ne ltE.2.2.2.1
      have NE2 := news_roll3 NE
      obtain ⟨ru, pu0, pu1, pu2⟩ := place_l O.ch.us (-turnT (y.fmod 3 + 1 + (y.fdiv 3).fmod 3 - y.fmod 3) ((y.fdiv 9).fmod 5 - y.fmod 3))
      have hlenu : urows.length ≤ 4 := by
        have e := O.ch.up.length_eq
        rw [List.length_map, List.length_map, List.length_take] at e
        have := hds.1
        omega
      refine lay_l w NE2 (.tail _ (.tail _ (.tail _ (.tail _ (.head _))))) (fun q hq => .tail _ (.tail _ (.tail _ (.tail _ (.tail _ hq))))) FE K' X' T' rfl (O.urw.keeps fun q hq => .tail _ (.tail _ (hsub q hq))) (by omega) pu0 pu1 pu2 ?_ (by ktr_room) (by ktr_units) ?_
      · refine all5 O.n7 O.n6 O.n10 O.n4 huaU fun q hq => ?_
        rcases List.mem_cons.mp hq with h | hq
        · exact h ▸ hraU
        rcases List.mem_cons.mp hq with h | hq
        · exact h ▸ hprU
        · exact tU q hq
      clear NE NE2 FE
      intro hG tG FG NG
      dsimp only
      k_steps
      have hok : RodOk (rodOf y) := rod_ok y
      rw [← rod_eq y] at hok
      have hds1 : (ds.take (i + 1)).map rodOf = (ds.take i).map rodOf ++ [(y.fmod 3 + 1 + (y.fdiv 3).fmod 3 - y.fmod 3, (y.fdiv 9).fmod 5 - y.fmod 3)] := by rw [rod_eq y]; exact take_next hy
      refine held_out ?_
      obtain ⟨oI, hoI⟩ := ho2
      have iu : h7.objs.size < ua := kst_ltOf ltE.2.2.2.2.2.2.2 _ (hown _ hoI)
      have ir : h7.objs.size < ra := kst_ltOf ltC.2.2.2.2.2.2 _ (hown _ hoI)
      have ip : h7.objs.size < pr := kst_ltOf hpal _ (hown _ hoI)
      have i94 : 94 ≠ h7.objs.size := ho3 _ (.head _)
      have iD : D ≠ h7.objs.size := ho3 _ (.tail _ (.head _))
      have iR : R ≠ h7.objs.size := ho3 _ (.tail _ (.tail _ (.head _)))
      have iL : Lo ≠ h7.objs.size := ho3 _ (.tail _ (.tail _ (.tail _ (.head _))))
      have iU : Up ≠ h7.objs.size := ho3 _ (.tail _ (.tail _ (.tail _ (.tail _ (.head _)))))
      have iT : ∀ q ∈ tups, q.1 ≠ h7.objs.size := fun q hq => ho3 q (.tail _ (.tail _ (.tail _ (.tail _ (.tail _ hq)))))
      rcases O.st with ⟨hn, rfl⟩ | ⟨l, hl, hrow⟩
      · refine wpAny_If ?_
        k_steps
        rename_i sa hH ltH hK FK NK
        have is : h7.objs.size < sa := Nat.lt_trans iu ltH.2.2.2.2.2.1
        exact step_up (fr_pack FK (by kst_all)) NK O hds1 hok pl1 pl2 pu1 pu2 hown hsub i94 iD iR iL iU iT ⟨huaR, huaL, huaU, hu94⟩ ⟨hraR, hraL, hraU, hr94⟩ ⟨hprR, hprL, hprU, hp94⟩ (lt_ne iu) (lt_ne ir) (lt_ne ip) ⟨lt_ne ltH.2.2.1, lt_ne ltH.2.1, lt_ne ltH.1, lt_ne ltH.2.2.2.1⟩ (lt_ne is) (.inl hn)
      · obtain ⟨sa, ns9, ts1, ts2, ts3, rfl, hsa⟩ := id hrow
        obtain ⟨okl, htl⟩ := last_ok O.ch hl
        have htest := steep_test hok okl htl
        have NG2 := news_in (need := [(sa, tupO [.int (-l.t) ts1, .int l.w ts2, .int l.h ts3] ns9)]) NG (by intro q hq; cases List.mem_singleton.mp hq; exact .tail _ (.tail _ (.tail _ (.tail _ (.tail _ (.tail _ (.tail _ (.tail _ (hsub _ hsa)))))))))
        simp only [List.cons_append, List.nil_append] at NG2
        refine wpAny_If ?_
        have hokb := hok
        have oklb := okl
        unfold RodOk at hokb oklb
        dsimp only at hokb oklb
        k_steps
        refine held_out ?_
        refine item_tupleT (News.isTup NG2 (.head _)) (by decide) (by decide) rfl rfl ?_ (by with_unfolding_all rfl)
        dsimp only
        k_steps
        refine held_out ?_
        refine item_tupleT (News.isTup NG2 (.head _)) (by decide) (by decide) rfl rfl ?_ (by with_unfolding_all rfl)
        dsimp only
        k_steps
        · rename_i hle na hH ltH hK FK NK
          have is : h7.objs.size < na := Nat.lt_trans iu ltH.2.2.2.2.2.2.1
          exact step_up (fr_pack FK (by kst_all)) (news_skip2 NK) O hds1 hok pl1 pl2 pu1 pu2 hown hsub i94 iD iR iL iU iT ⟨huaR, huaL, huaU, hu94⟩ ⟨hraR, hraL, hraU, hr94⟩ ⟨hprR, hprL, hprU, hp94⟩ (lt_ne iu) (lt_ne ir) (lt_ne ip) ⟨lt_ne ltH.2.2.2.1, lt_ne ltH.2.2.1, lt_ne ltH.2.1, lt_ne ltH.2.2.2.2.1⟩ (lt_ne is) (.inr ⟨l, hl, htest.mp hle⟩)
        · rename_i hle
          have hlt : turnT (y.fmod 3 + 1 + (y.fdiv 3).fmod 3 - y.fmod 3) ((y.fdiv 9).fmod 5 - y.fmod 3) < l.t := by
            rcases Int.lt_or_le (turnT (y.fmod 3 + 1 + (y.fdiv 3).fmod 3 - y.fmod 3) ((y.fdiv 9).fmod 5 - y.fmod 3)) l.t with h | h
            · exact h
            · exact absurd (htest.mpr h) hle
          exact step_stay (fr_pack FG (by kst_all)) (news_tl NG2) O hds1 hok pl1 pl2 pu1 pu2 hown hsub i94 iD iR iL iU iT ⟨huaR, huaL, huaU, hu94⟩ ⟨hraR, hraL, hraU, hr94⟩ ⟨hprR, hprL, hprU, hp94⟩ (lt_ne iu) (lt_ne ir) (lt_ne ip) l hl hlt hrow
    · intro m₁ news₁ h tk hJ F N
      refine ⟨rfl, D, R, Lo, Up, items, k, ds, m₁, news₁, ?_, F, N, hos, hbr⟩
      rw [← hI.length]; exact hJ
  clear F7 N7 hI hds lt1 lt2 lt3 hD94 hos hbr
  rintro s4 ⟨D, R, Lo, Up, items, k, ds, m, news, ⟨u, lrows, urows, rvs, lvs, uvs, sv, tups, nr, nl, nu, O, rfl, rfl⟩, F, N, hos, hbr⟩
  rw [List.take_length] at O
  dsimp only
  refine wpAny_execs_cons ?_
  k_steps
  refine held_out ?_
  refine cutS (P5 h₀ s₁.heap.objs.size s₁) ?_ ?_
  · skip
    obtain ⟨l, hl, hrow⟩ : ∃ l, lrows.getLast? = some l ∧ IsRow tups sv ⟨-l.t, l.w, l.h⟩ := by
      rcases O.st with ⟨hn, _⟩ | h
      · have e := O.ch.lp.length_eq
        rw [hn, List.map_nil, List.length_nil, List.length_map] at e
        have := O.okd.1
        omega
      · exact h
    obtain ⟨sa, ns9, ts1, ts2, ts3, hsv, hsa⟩ := id hrow
    subst hsv
    obtain ⟨vl, hvl, hvrow⟩ := O.lrw.last hl
    have hlenr : rvs.length ≤ 4 := by
      rw [O.prs.length, List.length_map]
      have := O.okd.1
      omega
    have hlenl : lrows.length ≤ 4 ∧ 0 < lrows.length := by
      have e := O.ch.lp.length_eq
      rw [List.length_map, List.length_map] at e
      have := O.okd.1
      omega
    have hlenu : urows.length ≤ 4 := by
      have e := O.ch.up.length_eq
      rw [List.length_map, List.length_map] at e
      have := O.okd.1
      omega
    have hlvl : lvs.length = lrows.length := O.lrw.length
    refine wpAny_If ?_
    k_steps
    refine held_out ?_
    refine sum_K rfl (isList_of N (.tail _ (.head _))) O.inD ?_
    intro h1 tk1 t1 hk1
    have F1 := Fr.grownK F hk1
    have N1 := News.grown N hk1
    try dsimp only
    k_steps
    · refine held_out ?_
      have htup : IsTup h1 sa (List.toArray [.int (-l.t) ts1, .int l.w ts2, .int l.h ts3]) := News.isTup N1 (.tail _ (.tail _ (.tail _ (.tail _ (.tail _ hsa)))))
      refine item_tupleT htup (by decide) (by decide) rfl rfl ?_ (by with_unfolding_all rfl)
      dsimp only
      k_steps
      refine held_out ?_
      refine item_tupleT htup (by decide) (by decide) rfl rfl ?_ (by with_unfolding_all rfl)
      dsimp only
      k_steps
      refine held_out ?_
      rename_i pr hA FA NA ltA
      have hp94 : pr ≠ 94 := lt_ne ltA.1
      have hprR : pr ≠ R := lt_ne ltA.2.2.1
      have hprL : pr ≠ Lo := lt_ne ltA.2.2.2.1
      have hprU : pr ≠ Up := lt_ne ltA.2.2.2.2.1
      have NA2 := news_app NA
      refine append_K FA NA2 (Upd.head (all5 O.n5.symm O.n6.symm O.n8 O.n2 hprR O.tR)) ?_ (by rw [List.size_toArray, sizeLine_eq]; omega)
      clear NA NA2 FA
      intro hB FB NB
      rw [List.push_toArray] at NB
      try dsimp only
      k_steps
      refine held_out ?_
      have hlB := isList_of NB (.tail _ (.head _))
      refine tail_any hlB.typeIs slot_list_getitem.lookup (wpAny_getItem_list_neg hlB (by decide) (by rw [List.size_toArray]; omega) (by decide) (x := vl) ?_ ?_) (by with_unfolding_all rfl)
      · rw [List.size_toArray]
        have e9 : ((-1 : Int) + (lvs.length : Int)).toNat = lvs.length - 1 := by omega
        rw [e9]
        simpa using hvl
      k_steps
      refine held_out ?_
      have NB2 := news_2 NB
      refine append_K FB NB2 (Upd.head (all5 O.n5 O.n7.symm O.n9 O.n3 hprL O.tL)) ?_ (by rw [List.size_toArray, sizeLine_eq]; omega)
      clear NB NB2 FB
      intro hC FC NC
      rw [List.push_toArray] at NC
      try dsimp only
      k_steps
      refine held_out ?_
      have NC2 := news_3 NC
      obtain ⟨ru, pu0, pu1, pu2⟩ := place_l O.ch.us (-l.t)
      refine lay_l w NC2 (.tail _ (.tail _ (.tail _ (.tail _ (.tail _ hsa))))) (fun q hq => .tail _ (.tail _ (.tail _ (.tail _ (.tail _ hq))))) FC K' X' T' rfl O.urw (by omega) pu0 pu1 pu2 ?_ (by ktr_room) (by ktr_units) ?_
      · exact all5 O.n7 O.n6 O.n10 O.n4 hprU O.tU
      clear NC NC2 FC
      intro hG tG FG NG
      try dsimp only
      k_steps
      exact ⟨D, R, Lo, Up, items, k, ds, _, _, _, _, _, _, _, _, _, _, _, _, O.again hl hvrow hrow ⟨hprR, hprL, hprU, hp94⟩ pu1 pu2, .inr ⟨by rw [List.length_append, List.length_map]; rfl, lrows, l, rfl, hl⟩, fr_pack FG (by kst_all), news_back NG, hos, hbr⟩
    · exact ⟨D, R, Lo, Up, items, k, ds, _, lrows, urows, rvs, lvs, uvs, _, tups, nr, nl, nu, _, O, .inl (by rw [List.length_map]), fr_pack F1 (by kst_all), N1, hos, hbr⟩
  clear F N O hos hbr
  rintro s5 ⟨D, R, Lo, Up, items, k, ds, rods, lrows, urows, rvs, lvs, uvs, sv, tups, nr, nl, nu, u, O, hone, F, N, hos, hbr⟩
  dsimp only
  have hM6 : Mark6 := ⟨⟩
  refine wpAny_execs_cons ?_
  refine cutS (P6 h₀ s₁.heap.objs.size s₁) ?_ ?_
  · skip
    k_steps
    refine held_out ?_
    refine comp_row (k := 1) (news := tups) (L := s₁.heap.objs.size) (h₀ := h₀) (by decide) rfl (by decide) (by decide) rfl (by decide) rfl rfl (fun t u => by with_unfolding_all rfl) ?_
    k_steps
    refine held_out ?_
    refine kst_len N (.tail _ (.head _)) O.inD.length (by have := O.okd.1; omega) ?_
    try dsimp only
    k_steps
    refine held_out ?_
    have hds4 := O.okd.1
    have hrl : rods.length = lrows.length := by have e := O.ch.lp.length_eq; rw [List.length_map] at e; exact e.symm
    have hll := O.lrw.length
    have hlv : lvs.length ≤ 5 := by
      have e := O.ch.lp.length_eq
      rw [List.length_map] at e
      have := O.okd.1
      have := O.lrw.length
      rcases hone with h | ⟨h, _⟩ <;> omega
    refine kms_slice_lit (zs := lvs.take ds.length) F N (isList_of N (.tail _ (.tail _ (.tail _ (.head _))))) .none (.int _ _) (pick_upto lvs ds.length) ?_ (by with_unfolding_all rfl) (fun _ => by with_unfolding_all rfl) (by rw [List.size_toArray, sizeLine_eq]; omega)
    intro Da ha Fa Na lta
    refine ⟨Da, lvs.take ds.length, lrows.take ds.length, rfl, isList_of Na (.head _), by rw [List.length_take]; omega, O.lrw.take _, fun q hq => Na q (.tail _ (.tail _ (.tail _ (.tail _ (.tail _ (.tail _ hq)))))), ?_⟩
    intro Dc hc tkc ys hDc hlD hints hkc
    obtain ⟨oc, oc1, oc2, Nc, nec⟩ := news_new Fa Na hDc hlD hkc
    have Fc : Fr h₀ s₁.heap.objs.size hc _ := Fr.grownK Fa hkc
    clear Fa
    try dsimp only
    k_steps
    refine held_out ?_
    rename_i l2 h2 F2 N2 lt2
    refine kmk_add_ints F2 N2 (isList_obj N2 (.tail _ (.head _)) oc1 oc2) (isList_of N2 (.head _)) hints (two_ints _ _ _ _) ?_ (by simp [sizeLine_eq]; omega)
    intro D3 us h3 F3 N3 lt3 hI3
    try dsimp only
    k_steps
    refine held_out ?_
    refine kst_len N3 (.tail _ (.tail _ (.tail _ (.tail _ (.tail _ (.tail _ (.head _))))))) O.prs.length (by have := O.prs.length; have := O.ch.lp.length_eq; rw [List.length_map] at this; have := O.lrw.length; omega) ?_
    try dsimp only
    k_steps
    refine held_out ?_
    have hrods : ds.length ≤ rods.length ∧ rods.length ≤ 5 := by rcases hone with h | ⟨h, _⟩ <;> omega
    refine ends1 w D3 us 0 rods.length _ (widths (lrows.take ds.length)) 0 [4] rods.length ?_ ?_ hI3 (.inl ⟨rfl, rfl⟩) (by omega) (by omega) _ _ _ _ _ _ _ _ _ _ _ _ _ _ _ _ _ _ _ _ _ _ _ K' F3 X' N3 T' rfl (.head _) hbr (by ktr_room) (by ktr_units) ?_
    · intro e
      have := congrArg List.length e
      unfold widths at this
      rw [List.length_map, List.length_take, List.length_nil] at this
      omega
    · intro x hx
      refine widths_ok O.ch.lp O.ch.ok x ?_
      obtain ⟨r, hr, e⟩ := List.mem_map.mp hx
      exact List.mem_map.mpr ⟨r, List.mem_of_mem_take hr, e⟩
    intro uns Un nun h4 tk4 G hI4 hG F4 N4 lt4
    try dsimp only
    k_steps
    rename_i h5 F5 N5
    refine ⟨D, R, Lo, Up, items, k, ds, rods, lrows, urows, rvs, lvs, uvs, sv, tups, nr, nl, nu, _, Un, uns, nun, O, hone, hI4, lt_ne (lt4 _ (.tail _ (.tail _ (.tail _ (.tail _ (.head _)))))), fr_pack F5 (by kst_all), news_pick N5 ?_, hos, hG⟩
    intro q hq
    simp only [List.mem_cons] at hq ⊢
    rcases hq with h | h | h | h | h | h <;> simp [h]
  clear F N O hos hbr hone
  rintro s6 ⟨D, R, Lo, Up, items, k, ds, rods, lrows, urows, rvs, lvs, uvs, sv, tups, nr, nl, nu, u, Un, uns, nun, O, hone, hUn, hUn94, F, N, hos, hbr⟩
  dsimp only
  refine wpAny_execs_cons ?_
  refine cutS (P7 h₀ s₁.heap.objs.size s₁) ?_ ?_
  · skip
    have hds4 := O.okd.1
    have hrl : rods.length = urows.length := by have e := O.ch.up.length_eq; rw [List.length_map] at e; exact e.symm
    have hll := O.urw.length
    have hrods : ds.length ≤ rods.length ∧ rods.length ≤ 5 := by rcases hone with h | ⟨h, _⟩ <;> omega
    k_steps
    refine held_out ?_
    refine comp_row (k := 1) (news := tups) (L := s₁.heap.objs.size) (h₀ := h₀) (by decide) rfl (by decide) (by decide) rfl (by decide) rfl rfl (fun t u => by with_unfolding_all rfl) ?_
    walk1
    try dsimp only
    refine ⟨Up, uvs, urows, rfl, isList_of N (.tail _ (.tail _ (.tail _ (.head _)))), by omega, O.urw, fun q hq => N q (.tail _ (.tail _ (.tail _ (.tail _ (.tail _ hq))))), ?_⟩
    intro Dc hc tkc ys hDc hlD hints hkc
    obtain ⟨oc, oc1, oc2, Nc, nec⟩ := news_new F N hDc hlD hkc
    have Fc : Fr h₀ s₁.heap.objs.size hc _ := Fr.grownK F hkc
    clear F N
    try dsimp only
    k_steps
    refine held_out ?_
    rename_i l2 h2 F2 N2 lt2
    refine kmk_add_ints F2 N2 (isList_obj N2 (.tail _ (.head _)) oc1 oc2) (isList_of N2 (.head _)) hints (two_ints _ _ _ _) ?_ (by simp [sizeLine_eq]; omega)
    intro D3 us h3 F3 N3 lt3 hI3
    try dsimp only
    k_steps
    refine held_out ?_
    refine ends1 w D3 us 0 9 _ (widths urows) 127 [2] urows.length ?_ (widths_ok O.ch.up O.ch.ok) hI3 (.inr ⟨rfl, by unfold widths; rw [List.length_map]; omega, by unfold widths; rw [List.length_map]⟩) (by omega) (by omega) _ _ _ _ _ _ _ _ _ _ _ _ _ _ _ _ _ _ _ _ _ _ _ K' F3 X' N3 T' rfl (.head _) hbr (by ktr_room) (by ktr_units) ?_
    · intro e
      have := congrArg List.length e
      unfold widths at this
      rw [List.length_map, List.length_nil] at this
      omega
    intro ovs Ov nov h4 tk4 G hI4 hG F4 N4 lt4
    try dsimp only
    k_steps
    rename_i h5 F5 N5
    refine ⟨D, R, Lo, Up, items, k, ds, rods, lrows, urows, rvs, lvs, uvs, sv, tups, nr, nl, nu, _, Un, uns, nun, Ov, ovs, nov, O, hone, hUn, hUn94, hI4, lt_ne (lt4 _ (.tail _ (.tail _ (.tail _ (.head _))))), fr_pack F5 (by kst_all), news_pick N5 ?_, hos, hG⟩
    intro q hq
    simp only [List.mem_cons] at hq ⊢
    rcases hq with h | h | h | h | h | h | h <;> simp [h]
  clear F N O hos hbr hone hUn hUn94
  rintro s7 ⟨D, R, Lo, Up, items, k, ds, rods, lrows, urows, rvs, lvs, uvs, sv, tups, nr, nl, nu, u, Un, uns, nun, Ov, ovs, nov, O, hone, hUn, hUn94, hOv, hOv94, F, N, hos, hbr⟩
  dsimp only
  have hll : lrows.length = rods.length := by have e := O.ch.lp.length_eq; rw [List.length_map] at e; exact e
  have hlu : urows.length = rods.length := by have e := O.ch.up.length_eq; rw [List.length_map] at e; exact e
  have hrods : 3 ≤ rods.length ∧ rods.length ≤ 5 := by have := O.okd.1; rcases hone with h | ⟨h, _⟩ <;> omega
  rw [ends_under hone hll] at hUn
  rw [ends_over] at hOv
  refine wpAny_execs_cons ?_
  refine cutS (P8 h₀ s₁.heap.objs.size s₁) ?_ ?_
  · skip
    refine wpAny_If ?_
    k_steps
    refine held_out ?_
    have lenU : uns.length = lrows.length + 1 := by rw [hUn.length, ends_length]
    have lenO : ovs.length = urows.length + 1 := by rw [hOv.length, ends_length]
    obtain ⟨tu, hu9⟩ := hUn.get _ _ (ends_last lrows)
    obtain ⟨to, ho9⟩ := hOv.get _ _ (ends_last urows)
    have hlB := isList_of N (.tail _ (.tail _ (.tail _ (.tail _ (.head _)))))
    refine tail_any hlB.typeIs slot_list_getitem.lookup (wpAny_getItem_list_neg hlB (by decide) (by rw [List.size_toArray]; omega) (by decide) (x := .int (widths lrows).sum tu) ?_ ?_) (by with_unfolding_all rfl)
    · rw [List.size_toArray]
      have e9 : ((-1 : Int) + (uns.length : Int)).toNat = lrows.length := by omega
      rw [e9]
      simpa using hu9
    have hsum : (widths lrows).sum = (widths urows).sum := perm_sum ((widths_perm O.ch.lp).trans (widths_perm O.ch.up).symm)
    have e8 : (endsT urows).getD urows.length 0 = (widths urows).sum := by rw [List.getD_eq_getElem?_getD, ends_last]; rfl
    have e7 := ends_length urows
    try dsimp only
    k_steps
    · rename_i hne
      refine absurd ?_ hne
      rw [hsum, ← e8]
      congr 1
      omega
    all_goals exact ⟨D, R, Lo, Up, items, k, ds, rods, lrows, urows, rvs, lvs, uvs, sv, tups, nr, nl, nu, _, Un, uns, nun, Ov, ovs, nov, O, hrods.2, hrods.1, hUn, hUn94, hOv, hOv94, F, N, hos, hbr⟩
  clear F N O hos hbr hone hUn hUn94 hOv hOv94 hll hlu hrods
  rintro s8 ⟨D, R, Lo, Up, items, k, ds, rods, lrows, urows, rvs, lvs, uvs, sv, tups, nr, nl, nu, u, Un, uns, nun, Ov, ovs, nov, O, hr5, hr3, hUn, hUn94, hOv, hOv94, F, N, hos, hbr⟩
  dsimp only
  refine wpAny_execs_cons ?_
  refine cutS (P9 h₀ s₁.heap.objs.size s₁) ?_ ?_
  · skip
    have Fk := F
    k_steps
    refine held_out ?_
    rename_i hx tkx tx ux vx hrx Fx Nx hkx
    refine kll_range rfl Fx Nx hrx (by decide +kernel) (n := 33) (by decide +kernel) (by decide) ?_
    intro Hh hvs nh h2 tk2 F2 N2 lt2 hI2
    try dsimp only
    k_steps
    · exact trivial
    rename_i h3 F3 N3
    refine ⟨R, Lo, Up, Un, Ov, Hh, rods, lrows, urows, rvs, lvs, uvs, uns, ovs, hvs, tups, nr, nl, nu, nun, nov, nh, _, ⟨O.ch, O.prs, O.lrw, O.urw, hr5, hr3, hUn, by assumption, hI2⟩, ?_, fr_pack F3 (by kst_all), news_pick N3 ?_, hos, hbr⟩
    · exact all_one O.n8.symm (all_one O.n9.symm (all_one O.n10.symm (all_one hUn94 (all_one hOv94 (all_one (lt_ne (lt2 _ (.head _))) O.t94)))))
    · intro q hq
      simp only [List.mem_cons] at hq ⊢
      rcases hq with h | h | h | h | h | h | h | h <;> simp [h]
  clear F N O hos hbr hUn hUn94 hOv hOv94 hr5 hr3
  rintro s9 ⟨R, Lo, Up, Un, Ov, Hh, rods, lrows, urows, rvs, lvs, uvs, uns, ovs, hvs, tups, nr, nl, nu, nun, nov, nh, u, O, h94, F, N, hos, hbr⟩
  dsimp only
  refine wpAny_execs_cons ?_
  k_steps
  refine held_out ?_
  rename_i g1 g2 h7 F7 N7
  refine cutS (P10 h₀ s₁.heap.objs.size s₁) ?_ ?_
  · skip
    have F8 := fr_pack (ps := [(sRods, .ref R), (sLower, .ref Lo), (sUpper, .ref Up), (sUnder, .ref Un), (sOver, .ref Ov), (sHeights, .ref Hh), (sPoints, .int 0 _), (sLowMet, .int 0 _), (sHighMet, .int 0 _)]) F7 (by kst_all)
    refine For_invV h₀ rfl rfl ?_
    k_steps
    refine held_out ?_
    have hsz := ends_length lrows
    have lenU : uns.length = lrows.length + 1 := by rw [O.iU.length, ends_length]
    obtain ⟨tu, hu9⟩ := O.iU.get _ _ (ends_last lrows)
    have hl3 : lrows.length = rods.length := by have e := O.ch.lp.length_eq; rw [List.length_map] at e; exact e
    have hr5 := O.r5
    have hr3 := O.r3
    have hlB := isList_of N7 (.tail _ (.tail _ (.tail _ (.tail _ (.head _)))))
    refine tail_any hlB.typeIs slot_list_getitem.lookup (wpAny_getItem_list_neg hlB (by decide) (by rw [List.size_toArray]; omega) (by decide) (x := .int (widths lrows).sum tu) ?_ ?_) (by with_unfolding_all rfl)
    · rw [List.size_toArray]
      have e9 : ((-1 : Int) + (uns.length : Int)).toNat = lrows.length := by omega
      rw [e9]
      simpa using hu9
    have hW0 := widths_pos lrows (wid_of O.ch.lp O.ch.ok)
    have hW1 : (widths lrows).sum ≤ 15 := widths_top O.ch.lp O.ch.ok O.r5
    try dsimp only
    k_steps
    refine held_out ?_
    rename_i hx tkx tx ux vx hrx Fx Nx hkx
    obtain ⟨W, hW⟩ := Int.eq_ofNat_of_zero_le hW0
    have eW : (widths lrows).sum + 1 = ((W + 1 : Nat) : Int) := by omega
    rw [eW] at hrx
    obtain ⟨sm1, sm2⟩ := small_rng (W + 1) (by omega)
    have hbase := h94
    generalize hb9 : base9 R Lo Up Un Ov Hh rvs lvs uvs uns ovs hvs nr nl nu nun nov nh tups = base at *
    refine loop_range (J10 R Lo Up Un Ov Hh lrows urows base) rfl hrx sm1 sm2 Fx Nx ?_ ?_ ?_
    · exact ⟨_, #[], base, _, _, _, fun q hq => hq, h94, .inl rfl, rfl, rfl⟩
    · intro i t m₁ news₁ h tk own hin hJ ho1 ho2 ho3 F N
      obtain ⟨u', ps, rest, t1, t2, t3, hb, hr94, tab, rfl, rfl⟩ := hJ
      obtain ⟨oI, x9, y9, z9, hoI, hdI⟩ := ho2
      rw [Int.zero_add] at F
      have N1 := news_own N
      have hsub : ∀ q ∈ rest, q ∈ own ++ rest := fun q hq => List.mem_append.mpr (.inr hq)
      have hown : ∀ q ∈ own, q ∈ own ++ rest := fun q hq => List.mem_append.mpr (.inl hq)
      have i94 : 94 ≠ hx.objs.size := ho3 _ (.head _)
      have hn94 : ∀ q ∈ own ++ rest, q.1 ≠ 94 := mem_app (fun q hq => (ho1 q hq).symm ▸ i94.symm) hr94
      have hbase2 : ∀ q ∈ base, q ∈ own ++ rest := fun q hq => hsub q (hb q hq)
      have hbI : ∀ q ∈ base, q.1 ≠ hx.objs.size := fun q hq => ho3 q (.tail _ (hb q hq))
      have tab1 := tab.mono hsub
      clear N ho1 ho3 hr94 hb tab
      generalize own ++ rest = tl at *
      have hok := pair_ok O.ch.lp O.ch.ok
      have huk := pair_ok O.ch.up O.ch.ok
      have hlu : urows.length = rods.length := by have e := O.ch.up.length_eq; rw [List.length_map] at e; exact e
      have hWu : (widths urows).sum = W := by rw [← hW]; exact perm_sum ((widths_perm O.ch.up).trans (widths_perm O.ch.lp).symm)
      have hnl : lrows ≠ [] := by rintro rfl; rw [List.length_nil] at hl3; omega
      have hnu : urows ≠ [] := by rintro rfl; rw [List.length_nil] at hlu; omega
      have htl : ∀ q ∈ tups, q ∈ tl := fun q hq => hbase2 q (hb9 ▸ .tail _ (.tail _ (.tail _ (.tail _ (.tail _ (.tail _ hq))))))
      have mR : (R, listOf rvs.toArray nr) ∈ tl := hbase2 _ (hb9 ▸ .head _)
      have mLo : (Lo, listOf lvs.toArray nl) ∈ tl := hbase2 _ (hb9 ▸ .tail _ (.head _))
      have mUp : (Up, listOf uvs.toArray nu) ∈ tl := hbase2 _ (hb9 ▸ .tail _ (.tail _ (.head _)))
      have mUn : (Un, listOf uns.toArray nun) ∈ tl := hbase2 _ (hb9 ▸ .tail _ (.tail _ (.tail _ (.head _))))
      have mOv : (Ov, listOf ovs.toArray nov) ∈ tl := hbase2 _ (hb9 ▸ .tail _ (.tail _ (.tail _ (.tail _ (.head _)))))
      have mHh : (Hh, listOf hvs.toArray nh) ∈ tl := hbase2 _ (hb9 ▸ .tail _ (.tail _ (.tail _ (.tail _ (.tail _ (.head _))))))
      have Bl := line_bounds (c := (i : Int)) hok hnl (by omega) (by omega) (by omega)
      have Bu := line_bounds (c := (i : Int)) huk hnu (by omega) (by omega) (by omega)
      obtain ⟨r1, rod1, row1, e1, base1, due1, D1⟩ := cut_data (c := (i : Int)) O.iH O.iU (O.lrw.keeps htl) hok hnl (by omega) (by omega) (by omega)
      dsimp only
      k_steps
      refine held_out ?_
      refine cut1 w Hh Lo Un nh nl nun _ _ _ _ _ _ _ _ _ _ _ _ _ _ _ _ _ _ _ _ tl ps _ _ _ K' F X' N1 hn94 T' rfl tab1 chd D1 mHh mLo mUn (by ktr_room) (by ktr_units) ?_
      intro b1 u1 u2 ps1 tl1 h1 tk1 tab2 sub1 off1 hb1 F1 N1'
      clear N1 F
      have sub1' : ∀ q ∈ tl, q ∈ ((b1, tupO [.int ((ce lrows (i : Int) + 11).toNat : Int) u1, .int ((fl lrows (i : Int) + 12).toNat : Int) u2]) :: tl1 : List (Addr × Obj)) := fun q hq => .tail _ (sub1 q hq)
      have off1' : ∀ q ∈ ((b1, tupO [.int ((ce lrows (i : Int) + 11).toNat : Int) u1, .int ((fl lrows (i : Int) + 12).toNat : Int) u2]) :: tl1 : List (Addr × Obj)), q.1 ≠ 94 := all_one hb1 off1
      have mb1 : (b1, tupO [.int ((ce lrows (i : Int) + 11).toNat : Int) u1, .int ((fl lrows (i : Int) + 12).toNat : Int) u2]) ∈ ((b1, tupO [.int ((ce lrows (i : Int) + 11).toNat : Int) u1, .int ((fl lrows (i : Int) + 12).toNat : Int) u2]) :: tl1 : List (Addr × Obj)) := .head _
      have tab2' := tab2.mono (n2 := (b1, tupO [.int ((ce lrows (i : Int) + 11).toNat : Int) u1, .int ((fl lrows (i : Int) + 12).toNat : Int) u2]) :: tl1) fun q hq => .tail _ hq
      generalize ((b1, tupO [.int ((ce lrows (i : Int) + 11).toNat : Int) u1, .int ((fl lrows (i : Int) + 12).toNat : Int) u2]) :: tl1 : List (Addr × Obj)) = tl2 at *
      dsimp only
      k_steps
      refine held_out ?_
      rename_i h2 F2 N2
      obtain ⟨r2, rod2, row2, e2, base2, due2, D2⟩ := cut_data (c := (i : Int)) O.iH O.iO (O.urw.keeps fun q hq => sub1' q (htl q hq)) huk hnu (by omega) (by omega) (by omega)
      refine cut1 w Hh Up Ov nh nu nov _ _ _ _ _ _ _ _ _ _ _ _ _ _ _ _ _ _ _ _ tl2 ps1 _ _ _ K' F2 X' N2 off1' T' rfl tab2' chd D2 (sub1' _ mHh) (sub1' _ mUp) (sub1' _ mOv) (by ktr_room) (by ktr_units) ?_
      intro b2 u3 u4 ps2 tl3 h3 tk3 tab3 sub2 off2 hb2 F3 N3
      clear N2 F2
      dsimp only
      k_steps
      rename_i h4 F4 N4
      have top4 : IsTup h4 b2 (List.toArray [.int ((ce urows (i : Int) + 11).toNat : Int) u3, .int ((fl urows (i : Int) + 12).toNat : Int) u4]) := News.isTup N4 (.tail _ (.head _))
      have low4 : IsTup h4 b1 (List.toArray [.int ((ce lrows (i : Int) + 11).toNat : Int) u1, .int ((fl lrows (i : Int) + 12).toNat : Int) u2]) := News.isTup N4 (.tail _ (.tail _ (sub2 _ mb1)))
      refine held_out ?_
      refine item_tupleT top4 (by decide) (by decide) rfl rfl ?_ (by with_unfolding_all rfl)
      dsimp only
      k_steps
      refine held_out ?_
      refine item_tupleT low4 (by decide) (by decide) rfl rfl ?_ (by with_unfolding_all rfl)
      dsimp only
      k_steps
      refine held_out ?_
      rename_i h5 F5 N5
      have top5 : IsTup h5 b2 (List.toArray [.int ((ce urows (i : Int) + 11).toNat : Int) u3, .int ((fl urows (i : Int) + 12).toNat : Int) u4]) := News.isTup N5 (.tail _ (.head _))
      have low5 : IsTup h5 b1 (List.toArray [.int ((ce lrows (i : Int) + 11).toNat : Int) u1, .int ((fl lrows (i : Int) + 12).toNat : Int) u2]) := News.isTup N5 (.tail _ (.tail _ (sub2 _ mb1)))
      refine item_tupleT low5 (by decide) (by decide) rfl rfl ?_ (by with_unfolding_all rfl)
      dsimp only
      k_steps
      refine held_out ?_
      refine item_tupleT low5 (by decide) (by decide) rfl rfl ?_ (by with_unfolding_all rfl)
      dsimp only
      k_steps
      refine held_out ?_
      rename_i h6 F6 N6
      have top6 : IsTup h6 b2 (List.toArray [.int ((ce urows (i : Int) + 11).toNat : Int) u3, .int ((fl urows (i : Int) + 12).toNat : Int) u4]) := News.isTup N6 (.tail _ (.head _))
      refine item_tupleT top6 (by decide) (by decide) rfl rfl ?_ (by with_unfolding_all rfl)
      dsimp only
      k_steps
      refine held_out ?_
      refine item_tupleT top6 (by decide) (by decide) rfl rfl ?_ (by with_unfolding_all rfl)
      dsimp only
      k_steps
      rename_i h7 F7 N7
      have c1 : colsP lrows urows i + ((fl urows (i : Int) + 12).toNat : Int) - ((ce lrows (i : Int) + 11).toNat : Int) = colsP lrows urows (i + 1) := by
        unfold colsP
        simp only [sumTo]
        omega
      have c2 : colsM lrows i + ((fl lrows (i : Int) + 12).toNat : Int) - ((ce lrows (i : Int) + 11).toNat : Int) = colsM lrows (i + 1) := by
        unfold colsM
        simp only [sumTo]
        omega
      have c3 : colsM urows i + ((fl urows (i : Int) + 12).toNat : Int) - ((ce urows (i : Int) + 11).toNat : Int) = colsM urows (i + 1) := by
        unfold colsM
        simp only [sumTo]
        omega
      exact col_done (by rw [← c1, ← c2, ← c3]; exact fr_pack F7 (by kst_all)) N7 (fun q hq => .tail _ (sub2 _ (sub1' _ (hbase2 q hq)))) (fun q hq => .tail _ (sub2 _ (sub1' _ (hown q hq)))) (all_one hb2 off2) (tab3.mono fun q hq => .tail _ hq) hoI hdI hbI i94
    · intro m₁ news₁ h tk hJ F N
      obtain ⟨u', ps, rest, t1, t2, t3, hb, hr94, tab, rfl, rfl⟩ := hJ
      have eN : (widths lrows).sum.toNat = W := by omega
      have hWu : (widths urows).sum.toNat = W := by
        have := perm_sum ((widths_perm O.ch.up).trans (widths_perm O.ch.lp).symm)
        omega
      have c1 : colsP lrows urows (W + 1) = 1 + (rods.map gcdM).sum + pairSum detM rods := by rw [← eN]; exact points_ok O.ch
      have c2 : colsM lrows (W + 1) = 1 + (rods.map gcdM).sum := by rw [← eN]; exact met_ok O.ch.lp O.ch.ok
      have c3 : colsM urows (W + 1) = 1 + (rods.map gcdM).sum := by rw [← hWu]; exact met_ok O.ch.up O.ch.ok
      rw [c1, c2, c3] at F
      exact ⟨rfl, R, rods, rvs, nr, ps, rest, _, t1, t2, t3, O.ch.ok, O.r5, O.prs.keeps (fun q hq => hb q (hb9 ▸ .tail _ (.tail _ (.tail _ (.tail _ (.tail _ (.tail _ hq))))))), hb _ (hb9 ▸ .head _), hr94, fr_pack F (by kst_all), N, hos, hbr⟩
  clear F7 N7 O h94 hos hbr
  rintro s10 ⟨R, rods, rvs, nr, ps, rest, u, t1, t2, t3, hok, hr5, hprs, mR, hr94, F, N, hos, hbr⟩
  dsimp only
  refine wpAny_execs_cons ?_
  refine cutS (P11 h₀ s₁.heap.objs.size s₁) ?_ ?_
  · skip
    k_steps
    refine held_out ?_
    have hlr : rvs.length = rods.length := hprs.length
    refine LCp.ListComp_P (F₀ := F) (by with_unfolding_all rfl) (by decide) (by rfl) (by decide) (by rfl) (by rfl) (by decide) ?_
    walk1
    try dsimp only
    refine LCp.SrcLP.ledger (by rfl) F N (.tail _ mR) (by rw [List.size_toArray, sizeLine_eq]; omega) ?_
    intro g
    refine pairs_turn gcdM ?_ ?_ 0 [] [] (hprs.keeps fun q hq => .tail _ hq) ?_ .nil ?_
    · exact .inr ⟨_, .tail _ mR, rfl, _, rfl⟩
    · intro p ta tb I oI C oC D ys m₂ h tk E' hC hx hx2 F N
      k_steps
      refine held_out ?_
      refine gcd1 w _ _ _ _ _ _ _ _ _ _ _ _ _ _ _ _ _ _ _ _ _ _ _ _ _ _ _ K' (by assumption) X' (by assumption) T' rfl (fun _ h => nomatch h) (by ktr_room) (by ktr_units) ?_
      intro t h' tk' F' N'
      exact ⟨t, h', tk', rfl, rfl, F', N'⟩
    · intro j v' h
      simpa using h
    · intro ys' hi D h tk F N off
      rw [List.nil_append] at hi
      k_steps
      refine held_out ?_
      refine sum_K rfl (isList_of N (.head _)) hi ?_
      intro h1 tk1 t9 hk1
      have F1 := Fr.grownK F hk1
      have N1 := News.grown N hk1
      try dsimp only
      k_steps
      rename_i h2 F2 N2
      exact ⟨R, rods, rvs, nr, ps, rest, _, t1, t2, t3, _, hok, hr5, hprs, mR, hr94, fr_pack F2 (by kst_all), news_tl N2, hos, hbr⟩
  clear F N hprs mR hr94 hos hbr
  rintro s11 ⟨R, rods, rvs, nr, ps, rest, u, t1, t2, t3, t4, hok, hr5, hprs, mR, hr94, F, N, hos, hbr⟩
  dsimp only
  refine wpAny_execs_cons ?_
  k_steps
  refine held_out ?_
  rename_i h7 F7 N7
  refine cutS (P12 h₀ s₁.heap.objs.size s₁) ?_ ?_
  · skip
    have F8 := fr_pack (ps := [(sRods, .ref R), (sPoints, .int (1 + (rods.map gcdM).sum + pairSum detM rods) t1), (sLowMet, .int (1 + (rods.map gcdM).sum) t2), (sHighMet, .int (1 + (rods.map gcdM).sum) t3), (sEdges, .int (1 + (rods.map gcdM).sum) t4), (sAreas, .int 0 _)]) F7 (by kst_all)
    have hlr : rvs.length = rods.length := hprs.length
    refine For_invV h₀ rfl rfl ?_
    k_steps
    refine held_out ?_
    refine kst_len N7 (.tail _ mR) hlr (by omega) ?_
    try dsimp only
    k_steps
    refine held_out ?_
    rename_i hx tkx tx ux vx hrx Fx Nx hkx
    obtain ⟨sm1, sm2⟩ := small_rng rods.length (by omega)
    refine loop_range (J12 R rods ps rest t1 t2 t3 t4) rfl hrx sm1 sm2 Fx Nx ?_ ?_ ?_
    · exact ⟨_, _, rfl, rfl⟩
    · intro i t m₁ news₁ h tk own hin hJ ho1 ho2 ho3 F N
      obtain ⟨u', ta, rfl, rfl⟩ := hJ
      obtain ⟨oI, x9, y9, z9, hoI, hdI⟩ := ho2
      rw [Int.zero_add] at F
      obtain ⟨pi, hpi⟩ : ∃ pi, rods[i]? = some pi := ⟨_, List.getElem?_eq_getElem hin⟩
      have F9 := fr_pack (ps := [(sRods, .ref R), (sPoints, .int (1 + (rods.map gcdM).sum + pairSum detM rods) t1), (sLowMet, .int (1 + (rods.map gcdM).sum) t2), (sHighMet, .int (1 + (rods.map gcdM).sum) t3), (sEdges, .int (1 + (rods.map gcdM).sum) t4), (sIi, .int (i : Int) t), (sAreas, .int (pairSum detM (rods.take i)) ta)]) F (by kst_all)
      clear F
      have e0 : pairSum detM (rods.take i) = pairSum detM (rods.take i) + ((rods.take 0).map (detM · pi)).sum := by simp
      rw [e0] at F9
      have mR2 : (R, listOf rvs.toArray nr) ∈ own ++ (94, tabObj ps) :: rest := List.mem_append.mpr (.inr (.tail _ mR))
      have hprs2 : PairsAre (own ++ (94, tabObj ps) :: rest) rvs rods := hprs.keeps fun q hq => List.mem_append.mpr (.inr (.tail _ hq))
      generalize hled : own ++ (94, tabObj ps) :: rest = led at *
      dsimp only
      k_steps
      refine held_out ?_
      refine For_invV h₀ rfl rfl ?_
      k_steps
      refine held_out ?_
      rename_i hy tky ty uy vy hry Fy Ny hky
      obtain ⟨sn1, sn2⟩ := small_rng i (by omega)
      refine loop_range (J13 R rods led t1 t2 t3 t4 t i pi) rfl hry sn1 sn2 Fy Ny ?_ ?_ ?_
      · exact ⟨_, ta, rfl, rfl⟩
      · intro k tk9 m₁ news₁ h tk own2 hkn hJ hp1 hp2 hp3 F N
        obtain ⟨u2, tb, rfl, rfl⟩ := hJ
        rw [Int.zero_add] at F
        obtain ⟨pk, hpk⟩ : ∃ pk, rods[k]? = some pk := ⟨_, List.getElem?_eq_getElem (by omega)⟩
        obtain ⟨vi, hvi, ai, ni, ti1, ti2, rfl, hmi⟩ := hprs2.get i pi hpi
        obtain ⟨vk, hvk, ak, nk, tk1, tk2, rfl, hmk⟩ := hprs2.get k pk hpk
        have hoki := hok pi (List.mem_of_getElem? hpi)
        have hokk := hok pk (List.mem_of_getElem? hpk)
        unfold RodOk at hoki hokk
        have hlR : h.IsList R rvs.toArray := isList_of N (List.mem_append.mpr (.inr mR2))
        have tupi : IsTup h ai (List.toArray [.int pi.1 ti1, .int pi.2 ti2]) := News.isTup N (List.mem_append.mpr (.inr hmi))
        have tupk : IsTup h ak (List.toArray [.int pk.1 tk1, .int pk.2 tk2]) := News.isTup N (List.mem_append.mpr (.inr hmk))
        generalize hA : pairSum detM (rods.take i) + ((rods.take k).map (detM · pi)).sum = A at F
        dsimp only
        k_steps
        refine held_out ?_
        refine item_litK (vs := rvs) (v := .ref ai) hlR (by omega) (by omega) (by simpa using hvi) ?_ (by with_unfolding_all rfl)
        try dsimp only
        k_steps
        refine held_out ?_
        refine item_tupleT tupi (by decide) (by decide) rfl rfl ?_ (by with_unfolding_all rfl)
        try dsimp only
        k_steps
        refine held_out ?_
        refine item_litK (vs := rvs) (v := .ref ak) hlR (by omega) (by omega) (by simpa using hvk) ?_ (by with_unfolding_all rfl)
        try dsimp only
        k_steps
        refine held_out ?_
        refine item_tupleT tupk (by decide) (by decide) rfl rfl ?_ (by with_unfolding_all rfl)
        try dsimp only
        k_steps
        refine held_out ?_
        refine item_litK (vs := rvs) (v := .ref ai) hlR (by omega) (by omega) (by simpa using hvi) ?_ (by with_unfolding_all rfl)
        try dsimp only
        k_steps
        refine held_out ?_
        refine item_tupleT tupi (by decide) (by decide) rfl rfl ?_ (by with_unfolding_all rfl)
        try dsimp only
        k_steps
        refine held_out ?_
        refine item_litK (vs := rvs) (v := .ref ak) hlR (by omega) (by omega) (by simpa using hvk) ?_ (by with_unfolding_all rfl)
        try dsimp only
        k_steps
        refine held_out ?_
        refine item_tupleT tupk (by decide) (by decide) rfl rfl ?_ (by with_unfolding_all rfl)
        try dsimp only
        k_steps
        rename_i h5 F5 N5
        have e9 : A + (if pi.1 * pk.2 - pi.2 * pk.1 < 0 then -(pi.1 * pk.2 - pi.2 * pk.1) else pi.1 * pk.2 - pi.2 * pk.1) = pairSum detM (rods.take i) + ((rods.take (k + 1)).map (detM · pi)).sum := by
          rw [dets_next hpk, ← hA]
          unfold detM
          split <;> omega
        rw [e9] at F5
        exact LoopStepU.intro (news₂ := news₁) (fr_pack (ps := [(sRods, .ref R), (sPoints, .int (1 + (rods.map gcdM).sum + pairSum detM rods) t1), (sLowMet, .int (1 + (rods.map gcdM).sum) t2), (sHighMet, .int (1 + (rods.map gcdM).sum) t3), (sEdges, .int (1 + (rods.map gcdM).sum) t4), (sIi, .int (i : Int) t), (sAreas, .int (pairSum detM (rods.take i) + ((rods.take (k + 1)).map (detM · pi)).sum) _)]) F5 (by kst_all)) N5 (fun q hq hm => hp3 q hq (List.mem_singleton.mp hm)) ⟨_, _, rfl, rfl⟩
      · intro m₁ news₁ h tk hJ F N
        obtain ⟨u2, tb, rfl, rfl⟩ := hJ
        rw [← pairs_next hpi] at F
        dsimp only
        k_steps
        rw [← hled] at N
        exact LoopStepU.intro (news₂ := (94, tabObj ps) :: rest) (fr_pack (ps := [(sRods, .ref R), (sPoints, .int (1 + (rods.map gcdM).sum + pairSum detM rods) t1), (sLowMet, .int (1 + (rods.map gcdM).sum) t2), (sHighMet, .int (1 + (rods.map gcdM).sum) t3), (sEdges, .int (1 + (rods.map gcdM).sum) t4), (sAreas, .int (pairSum detM (rods.take (i + 1))) tb)]) F (by kst_all)) N (fun q hq hm => ho3 q hq (List.mem_singleton.mp hm)) ⟨_, tb, rfl, rfl⟩
    · intro m₁ news₁ h tk hJ F N
      obtain ⟨u', ta, rfl, rfl⟩ := hJ
      rw [List.take_length] at F
      exact ⟨rfl, rods, ps, rest, _, t1, t2, t3, t4, ta, fr_pack F (by kst_all), N, hos, hbr⟩
  clear F7 N7 hprs mR hr94 hos hbr hok hr5
  rintro s12 ⟨rods, ps, rest, u, t1, t2, t3, t4, t5, F, N, hos, hbr⟩
  dsimp only
  refine wpAny_execs_cons ?_
  · skip
    k_steps
    all_goals first
      | (rename_i hne9; exact absurd rfl hne9)
      | (dsimp only; exact ⟨ps, _, rest, by simp, F, N, hos, hbr⟩)
  done)
end Mine
end
theorem PySem.Challenge.cw_re0082_01_holds : PySem.Challenge.rw_re0082_01.Holds := by
  exact Mine.fin
