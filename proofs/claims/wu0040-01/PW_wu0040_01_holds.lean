import PyProof.Rows.All
import Wide.All
import OpenK.AllK
import Wide.FinOn
import PySem.Challenge.RW_wu0040_01
set_option Elab.async false
set_option linter.unusedVariables false
set_option linter.unusedSimpArgs false
section
open PySem PySem.W PyProof.Rows
namespace Mine
set_option maxRecDepth 100000 in
set_option maxHeartbeats 8000000 in
open_top hd for PySem.Challenge.rw_wu0040_01
end Mine
end
local macro_rules | `(tactic| walk_at $s:str) => `(tactic| k_extra $s)
local macro_rules | `(tactic| cell_enter) => `(tactic| k_extra "cell_enter")
local macro_rules | `(tactic| k_ne) => `(tactic| k_extra "k_ne")

theorem Mine.calmW1 : True := by
  w_top off
  k_with_none
  k_with "k_ne" => (refine neN ?_; (try dsimp only); first | with_reducible assumption | with_reducible exact Ne.symm (by assumption))
  exact True.intro
section
open PySem PySem.W PyProof.Rows PySem.Calls PySem.Spec
namespace Mine
abbrev prg : Program := RowW.prog (OpenRow.toRowW (OpenLaw.row Challenge.rw_wu0040_01))
noncomputable abbrev KK (w : World) : Frag := hd.heap_39 w.params
abbrev TopH (mean : ExcName → Option Value) (mg mb : Str → Option Value) (h : Heap) : Prop :=
  Top hd.view_39 (looseW hd.view_39 [Str.ofString "bisect_right", Str.ofString "insort_left", Str.ofString "bisect_left"]) mean mg mb h
/-- a call of the def at f in any def's frame: it hands back what R says, and keeps the ledger -/
abbrev Tells (D : Nat) (w : World) (mean : ExcName → Option Value) (mg mb : Str → Option Value) (f : Addr) (need : List (Addr × Obj)) (vs : List Value) (R : Value → Prop) : Prop :=
  ∀ (dp un : Nat) (gd : Option (List Code)) (cn : Str) (cs : Scope) (a : Addr) (ccd : Value) (cl : List (Str × Addr)) (outer : List Env) (A₀ : Around) (base h₀ : Heap) (L : Addr) (m : Str → Option Value) (news : List (Addr × Obj)) (s : Shared) (Q E : Value → Shared → Prop),
    Below A₀ base outer h₀ → Fr h₀ L s.heap m → (KK w).In h₀ → News h₀ L s.heap news → TopH mean mg mb h₀ → cs.kind = .function → (∀ p ∈ need, p ∈ news) → dp + D < recursionLimit → un + 8 * D < cLine →
    (∀ v h' tk', R v → Fr h₀ L h' m → News h₀ L h' news → Q v { s with heap := h', toks := tk' }) →
    wpAny (model prg w) (ktrTop dp un gd cn cs L a ccd cl outer) (call (.ref f) vs) Q E s
set_option maxRecDepth 100000 in
set_option maxHeartbeats 8000000 in
theorem xor_tells {w : World} {mean : ExcName → Option Value} {mg mb : Str → Option Value} (a b : Int) (ta tb : Tok) : Tells 1 w mean mg mb 21 [] [.int a ta, .int b tb] (fun v => ∃ t, v = .int (Builtin.bitXor a b) t) := by
  unfold Tells TopH prg KK
  k_fill
  intro dp un gd cn cs ad ccd cl outer A₀ base h₀ L m news s Q E B F X N T hk hn hd hu hret
  refine wpAny_call ?_
  k_dflt cell_enter
  k_steps
  all_goals exact hret _ _ _ ⟨_, rfl⟩ (by assumption) (by assumption)
set_option maxRecDepth 100000 in
set_option maxHeartbeats 8000000 in
theorem iand_tells {w : World} {mean : ExcName → Option Value} {mg mb : Str → Option Value} (a b : Int) (ta tb : Tok) : Tells 1 w mean mg mb 42 [] [.int a ta, .int b tb] (fun v => ∃ t, v = .int (Builtin.bitAnd a b) t) := by
  unfold Tells TopH prg KK
  k_fill
  intro dp un gd cn cs ad ccd cl outer A₀ base h₀ L m news s Q E B F X N T hk hn hd hu hret
  refine wpAny_call ?_
  k_dflt cell_enter
  k_steps
  all_goals exact hret _ _ _ ⟨_, rfl⟩ (by assumption) (by assumption)
set_option maxRecDepth 100000 in
set_option maxHeartbeats 8000000 in
theorem ior_tells {w : World} {mean : ExcName → Option Value} {mg mb : Str → Option Value} (a b : Int) (ta tb : Tok) : Tells 1 w mean mg mb 63 [] [.int a ta, .int b tb] (fun v => ∃ t, v = .int (Builtin.bitOr a b) t) := by
  unfold Tells TopH prg KK
  k_fill
  intro dp un gd cn cs ad ccd cl outer A₀ base h₀ L m news s Q E B F X N T hk hn hd hu hret
  refine wpAny_call ?_
  k_dflt cell_enter
  k_steps
  all_goals exact hret _ _ _ ⟨_, rfl⟩ (by assumption) (by assumption)
set_option maxRecDepth 100000 in
set_option maxHeartbeats 8000000 in
theorem isub_tells {w : World} {mean : ExcName → Option Value} {mg mb : Str → Option Value} (a b : Int) (ta tb : Tok) : Tells 1 w mean mg mb 77 [] [.int a ta, .int b tb] (fun v => ∃ t, v = .int (a - b) t) := by
  unfold Tells TopH prg KK
  k_fill
  intro dp un gd cn cs ad ccd cl outer A₀ base h₀ L m news s Q E B F X N T hk hn hd hu hret
  refine wpAny_call ?_
  k_dflt cell_enter
  k_steps
  all_goals exact hret _ _ _ ⟨_, rfl⟩ (by assumption) (by assumption)
set_option maxRecDepth 100000 in
set_option maxHeartbeats 8000000 in
theorem irshift_tells {w : World} {mean : ExcName → Option Value} {mg mb : Str → Option Value} (a b : Int) (ta tb : Tok) (hb0 : 0 ≤ b) (hb1 : b ≤ 64) : Tells 1 w mean mg mb 70 [] [.int a ta, .int b tb] (fun v => ∃ t, v = .int (a.fdiv (2 ^ b.toNat)) t) := by
  unfold Tells TopH prg KK
  k_fill
  intro dp un gd cn cs ad ccd cl outer A₀ base h₀ L m news s Q E B F X N T hk hn hd hu hret
  refine wpAny_call ?_
  k_dflt cell_enter
  k_steps
  all_goals exact hret _ _ _ ⟨_, rfl⟩ (by assumption) (by assumption)
set_option maxRecDepth 100000 in
set_option maxHeartbeats 8000000 in
theorem ilshift_tells {w : World} {mean : ExcName → Option Value} {mg mb : Str → Option Value} (a b : Int) (ta tb : Tok) (hb0 : 0 ≤ b) (hb1 : b ≤ 64) (ha0 : 0 ≤ a) (ha1 : a < 18446744073709551616) : Tells 1 w mean mg mb 49 [] [.int a ta, .int b tb] (fun v => ∃ t, v = .int (a * 2 ^ b.toNat) t) := by
  unfold Tells TopH prg KK
  k_fill
  intro dp un gd cn cs ad ccd cl outer A₀ base h₀ L m news s Q E B F X N T hk hn hd hu hret
  refine wpAny_call ?_
  k_dflt cell_enter
  k_steps
  all_goals exact hret _ _ _ ⟨_, rfl⟩ (by assumption) (by assumption)
set_option maxRecDepth 100000 in
set_option maxHeartbeats 8000000 in
theorem imul_tells {w : World} {mean : ExcName → Option Value} {mg mb : Str → Option Value} (a b : Int) (ta tb : Tok) (ha0 : 0 ≤ a) (ha1 : a < 18446744073709551616) (hb0 : 0 ≤ b) (hb1 : b < 1024) : Tells 1 w mean mg mb 56 [] [.int a ta, .int b tb] (fun v => ∃ t, v = .int (a * b) t) := by
  unfold Tells TopH prg KK
  k_fill
  intro dp un gd cn cs ad ccd cl outer A₀ base h₀ L m news s Q E B F X N T hk hn hd hu hret
  refine wpAny_call ?_
  k_dflt cell_enter
  k_steps
  all_goals exact hret _ _ _ ⟨_, rfl⟩ (by assumption) (by assumption)
end Mine
end

theorem Mine.calmP1 : True := by
  w_top off
  k_with_none
  k_with "k_ne" => (refine neN ?_; (try dsimp only); first | with_reducible assumption | with_reducible exact Ne.symm (by assumption))
  exact True.intro
section
namespace Mine
/-- how many of ns are below x -/
def cl (ns : List Int) (x : Int) : Int := (ns.countP (fun k => decide (k < x)) : Nat)
/-- how many of ns are not above x -/
def cr (ns : List Int) (x : Int) : Int := (ns.countP (fun k => decide (k ≤ x)) : Nat)

theorem getD_mono {ns : List Int} (hs : ns.Pairwise (· ≤ ·)) {i j : Nat} (hij : i ≤ j) (hj : j < ns.length) : ns.getD i 0 ≤ ns.getD j 0 := by
  have hi : i < ns.length := by omega
  rw [List.getD_eq_getElem?_getD, List.getD_eq_getElem?_getD, List.getElem?_eq_getElem hi, List.getElem?_eq_getElem hj]
  rcases Nat.lt_or_ge i j with h | h
  · exact List.pairwise_iff_getElem.mp hs i j hi hj h
  · have e : i = j := by omega
    subst e; exact Int.le_refl _

/-- a count where a place parts the true from the false -/
theorem countP_split (p : Int → Bool) : ∀ (ns : List Int) (r : Nat), r ≤ ns.length → (∀ k, k < r → p (ns.getD k 0) = true) → (∀ k, r ≤ k → k < ns.length → p (ns.getD k 0) = false) → ns.countP p = r
  | [], r, hr, _, _ => by simp at hr; subst hr; rfl
  | a :: l, 0, _, _, h2 => by
    have : ∀ b ∈ a :: l, ¬ p b = true := by
      intro b hb
      obtain ⟨i, hi, rfl⟩ := List.getElem_of_mem hb
      have := h2 i (by omega) hi
      rw [List.getD_eq_getElem?_getD, List.getElem?_eq_getElem hi] at this
      simpa using this
    exact List.countP_eq_zero.mpr this
  | a :: l, r + 1, hr, h1, h2 => by
    have ha : p a = true := by simpa using h1 0 (by omega)
    rw [List.countP_cons, if_pos ha, countP_split p l r (by simp at hr; omega) (fun k hk => by simpa using h1 (k + 1) (by omega)) (fun k hk hl => by simpa using h2 (k + 1) (by omega) (by simp; omega))]

abbrev BLInv (ns : List Int) (x lo hi : Int) : Prop := 0 ≤ lo ∧ lo ≤ hi ∧ hi ≤ (ns.length : Int) ∧ (∀ k : Nat, (k : Int) < lo → ns.getD k 0 < x) ∧ (∀ k : Nat, hi ≤ (k : Int) → k < ns.length → x ≤ ns.getD k 0)
abbrev BRInv (ns : List Int) (x lo hi : Int) : Prop := 0 ≤ lo ∧ lo ≤ hi ∧ hi ≤ (ns.length : Int) ∧ (∀ k : Nat, (k : Int) < lo → ns.getD k 0 ≤ x) ∧ (∀ k : Nat, hi ≤ (k : Int) → k < ns.length → x < ns.getD k 0)
theorem mid_is {lo hi : Int} (h : lo < hi) (h0 : 0 ≤ lo) : lo ≤ Int.fdiv (lo + hi) 2 ∧ Int.fdiv (lo + hi) 2 < hi := by
  rw [Int.fdiv_eq_ediv_of_nonneg _ (by omega)]
  omega
theorem ms_up {lo hi : Int} (h0 : 0 ≤ lo) (h : lo < hi) : (hi - (Int.fdiv (lo + hi) 2 + 1)).toNat < (hi - lo).toNat := by
  obtain ⟨m1, m2⟩ := mid_is h h0
  omega
theorem ms_down {lo hi : Int} (h0 : 0 ≤ lo) (h : lo < hi) : (Int.fdiv (lo + hi) 2 - lo).toNat < (hi - lo).toNat := by
  obtain ⟨m1, m2⟩ := mid_is h h0
  omega
theorem bl_up {ns : List Int} {x lo hi : Int} (hs : ns.Pairwise (· ≤ ·)) (h0 : 0 ≤ lo) (h2 : hi ≤ (ns.length : Int)) (h4 : ∀ k : Nat, hi ≤ (k : Int) → k < ns.length → x ≤ ns.getD k 0) (h : lo < hi)
    (hm : ns.getD (Int.fdiv (lo + hi) 2).toNat 0 < x) : BLInv ns x (Int.fdiv (lo + hi) 2 + 1) hi := by
  obtain ⟨m1, m2⟩ := mid_is h h0
  refine ⟨by omega, by omega, h2, fun k hk => ?_, h4⟩
  exact Int.lt_of_le_of_lt (getD_mono hs (by omega) (by omega)) hm
theorem bl_down {ns : List Int} {x lo hi : Int} (hs : ns.Pairwise (· ≤ ·)) (h0 : 0 ≤ lo) (h2 : hi ≤ (ns.length : Int)) (h3 : ∀ k : Nat, (k : Int) < lo → ns.getD k 0 < x) (h : lo < hi)
    (hm : ¬ ns.getD (Int.fdiv (lo + hi) 2).toNat 0 < x) : BLInv ns x lo (Int.fdiv (lo + hi) 2) := by
  obtain ⟨m1, m2⟩ := mid_is h h0
  refine ⟨by omega, by omega, by omega, h3, fun k hk hl => ?_⟩
  exact Int.le_trans (Int.not_lt.mp hm) (getD_mono hs (by omega) (by omega))
theorem br_down {ns : List Int} {x lo hi : Int} (hs : ns.Pairwise (· ≤ ·)) (h0 : 0 ≤ lo) (h2 : hi ≤ (ns.length : Int)) (h3 : ∀ k : Nat, (k : Int) < lo → ns.getD k 0 ≤ x) (h : lo < hi)
    (hm : x < ns.getD (Int.fdiv (lo + hi) 2).toNat 0) : BRInv ns x lo (Int.fdiv (lo + hi) 2) := by
  obtain ⟨m1, m2⟩ := mid_is h h0
  refine ⟨by omega, by omega, by omega, h3, fun k hk hl => ?_⟩
  exact Int.lt_of_lt_of_le hm (getD_mono hs (by omega) (by omega))
theorem br_up {ns : List Int} {x lo hi : Int} (hs : ns.Pairwise (· ≤ ·)) (h0 : 0 ≤ lo) (h2 : hi ≤ (ns.length : Int)) (h4 : ∀ k : Nat, hi ≤ (k : Int) → k < ns.length → x < ns.getD k 0) (h : lo < hi)
    (hm : ¬ x < ns.getD (Int.fdiv (lo + hi) 2).toNat 0) : BRInv ns x (Int.fdiv (lo + hi) 2 + 1) hi := by
  obtain ⟨m1, m2⟩ := mid_is h h0
  refine ⟨by omega, by omega, h2, fun k hk => ?_, h4⟩
  exact Int.le_trans (getD_mono hs (by omega) (by omega)) (Int.not_lt.mp hm)
theorem bl_end {ns : List Int} {x lo hi : Int} (h0 : 0 ≤ lo) (h1 : lo ≤ hi) (h2 : hi ≤ (ns.length : Int)) (h3 : ∀ k : Nat, (k : Int) < lo → ns.getD k 0 < x) (h4 : ∀ k : Nat, hi ≤ (k : Int) → k < ns.length → x ≤ ns.getD k 0) (h : ¬ lo < hi) : lo = cl ns x := by
  have := countP_split (fun k => decide (k < x)) ns lo.toNat (by omega) (fun k hk => by simpa using h3 k (by omega)) (fun k hk hl => by simpa using h4 k (by omega) hl)
  unfold cl; omega
theorem br_end {ns : List Int} {x lo hi : Int} (h0 : 0 ≤ lo) (h1 : lo ≤ hi) (h2 : hi ≤ (ns.length : Int)) (h3 : ∀ k : Nat, (k : Int) < lo → ns.getD k 0 ≤ x) (h4 : ∀ k : Nat, hi ≤ (k : Int) → k < ns.length → x < ns.getD k 0) (h : ¬ lo < hi) : lo = cr ns x := by
  have := countP_split (fun k => decide (k ≤ x)) ns lo.toNat (by omega) (fun k hk => by simpa using h3 k (by omega)) (fun k hk hl => by simpa using h4 k (by omega) hl)
  unfold cr; omega
end Mine
end

theorem Mine.calmW2 : True := by
  w_top off
  k_with_none
  k_with "k_ne" => (refine neN ?_; (try dsimp only); first | with_reducible assumption | with_reducible exact Ne.symm (by assumption))
  exact True.intro
section
open PySem PySem.W PyProof.Rows PySem.Calls PySem.Spec
namespace Mine
theorem news_dup {h₀ h : Heap} {L : Addr} {news : List (Addr × Obj)} {p : Addr × Obj} (N : News h₀ L h news) (hp : p ∈ news) : News h₀ L h (p :: news) := fun q hq => by
  rcases List.mem_cons.mp hq with rfl | hq
  · exact N _ hp
  · exact N _ hq
theorem ret_int {h₀ h' : Heap} {L : Addr} {m : Str → Option Value} {news news' : List (Addr × Obj)} {s : Shared} {Q : Value → Shared → Prop} {x y : Int} {t : Tok} {tk' : Nat}
    (hret : ∀ v h' tk', (∃ t, v = Value.int x t) → Fr h₀ L h' m → News h₀ L h' news → Q v { s with heap := h', toks := tk' }) (e : y = x) (F : Fr h₀ L h' m) (N : News h₀ L h' news') (hs : ∀ p ∈ news, p ∈ news') :
    Q (.int y t) { s with heap := h', toks := tk' } := hret _ _ _ ⟨t, by rw [e]⟩ F fun p hp => N p (hs p hp)
-- a def whose defaults stand in the written heap
theorem rulesW2_0 : True := by
  k_with "cell_enter" => (refine' code_def ?k1 ?k2 ?k3 ?k4 ?k5 ?kA ?kF ?kK ?k6 ?k7 ?k8 ?k9 ?kB ?_ ?c2 ?c3 ?c4 ?c5; (case kA => exact rfl); (case kF => exact rfl); (case kK => assumption); (case k1 => k_asm); (case k2 => k_asm); (case k3 => k_asm); (case k4 => k_asm); (case k5 => k_asm); (case k6 => k_is); (case k7 => k_is); (case k8 => ktr_room); (case k9 => (refine' kp_binds ?kx ?ke; (case kx => k_in); (case ke => exact fun _ => rfl))); (case c5 => decide); (case kB => exact locs rfl); (case c2 => exact rfl); (case c3 => exact rfl); (case c4 => exact rfl); k_whole; intro g' L' h' FG' F' N' B' X' T'; (try dsimp only); (try k_lift B'); (try k_fold))
  exact True.intro
theorem Tells.use {D : Nat} {w : World} {mean : ExcName → Option Value} {mg mb : Str → Option Value} {f : Addr} {need : List (Addr × Obj)} {vs : List Value} {R : Value → Prop}
    {dp un : Nat} {gd : Option (List Code)} {cn : Str} {cs : Scope} {a : Addr} {ccd : Value} {cl : List (Str × Addr)} {outer : List Env} {A₀ : Around} {base h₀ : Heap} {L : Addr} {m : Str → Option Value} {news : List (Addr × Obj)} {s : Shared} {Q E : Value → Shared → Prop}
    (B : Below A₀ base outer h₀) (F : Fr h₀ L s.heap m) (X : (KK w).In h₀) (N : News h₀ L s.heap news) (T : TopH mean mg mb h₀) (hk : cs.kind = .function)
    (H : Tells D w mean mg mb f need vs R) (hn : ∀ p ∈ need, p ∈ news) (hd : dp + D < recursionLimit) (hu : un + 8 * D < cLine)
    (ret : ∀ v h' tk', R v → Fr h₀ L h' m → News h₀ L h' news → Q v { s with heap := h', toks := tk' }) :
    wpAny (model prg w) (ktrTop dp un gd cn cs L a ccd cl outer) (call (.ref f) vs) Q E s := H _ _ _ _ _ _ _ _ _ _ _ _ _ _ _ _ _ _ B F X N T hk hn hd hu ret
theorem need1 {p : Addr × Obj} {news : List (Addr × Obj)} (h : p ∈ news) : ∀ q ∈ [p], q ∈ news := fun q hq => by
  rw [List.mem_singleton.mp hq]; exact h
theorem need0 {news : List (Addr × Obj)} : ∀ q ∈ ([] : List (Addr × Obj)), q ∈ news := fun _ hq => nomatch hq
set_option maxRecDepth 100000 in
set_option maxHeartbeats 8000000 in
theorem bisect_left_tells {w : World} {mean : ExcName → Option Value} {mg mb : Str → Option Value} (l : Addr) (vs : List Value) (ns : List Int) (c : Nat) (hi : IntsAre vs ns) (hlen : ns.length ≤ 64) (hs : ns.Pairwise (· ≤ ·)) (x : Int) (tx : Tok) :
    Tells 2 w mean mg mb 104 [(l, listOf vs.toArray c)] [.ref l, .int x tx] (fun v => ∃ t, v = .int (cl ns x) t) := by
  unfold Tells TopH prg KK
  k_fill
  intro dp un gd cn cs ad ccd cls outer A₀ base h₀ L m news s Q E B F X N0 T hk hn hd hu hret
  have N := news_dup N0 (hn _ (.head _))
  clear N0
  k_with "exec While Compare cons nil" => k_while (fun script lo hi => 0 ≤ lo ∧ lo ≤ hi ∧ hi ≤ (script.length : Int) ∧ (∀ k : Nat, (k : Int) < lo → script.getD k 0 < x) ∧ (∀ k : Nat, hi ≤ (k : Int) → k < script.length → x ≤ script.getD k 0)) (fun _ lo hi => (hi - lo).toNat) "lo" "hi"
  k_with "state" => first | exact bl_up hs (by assumption) (by assumption) (by assumption) (by assumption) (by assumption) | exact bl_down hs (by assumption) (by assumption) (by assumption) (by assumption) (by assumption)
  k_with "measure" => first | exact ms_up (by assumption) (by assumption) | exact ms_down (by assumption) (by assumption)
  refine wpAny_call ?_
  k_dflt cell_enter
  k_steps
  all_goals (refine' ret_int hret ?e ?F ?N ?S; (case F => assumption); (case N => assumption); (case S => exact fun p hp => List.mem_cons_of_mem _ hp))
  all_goals exact bl_end (by assumption) (by assumption) (by assumption) (by assumption) (by assumption) (by assumption)
set_option maxRecDepth 100000 in
set_option maxHeartbeats 8000000 in
theorem bisect_right_tells {w : World} {mean : ExcName → Option Value} {mg mb : Str → Option Value} (l : Addr) (vs : List Value) (ns : List Int) (c : Nat) (hi : IntsAre vs ns) (hlen : ns.length ≤ 64) (hs : ns.Pairwise (· ≤ ·)) (x : Int) (tx : Tok) :
    Tells 2 w mean mg mb 86 [(l, listOf vs.toArray c)] [.ref l, .int x tx] (fun v => ∃ t, v = .int (cr ns x) t) := by
  unfold Tells TopH prg KK
  k_fill
  intro dp un gd cn cs ad ccd cls outer A₀ base h₀ L m news s Q E B F X N0 T hk hn hd hu hret
  have N := news_dup N0 (hn _ (.head _))
  clear N0
  k_with "exec While Compare cons nil" => k_while (fun script lo hi => 0 ≤ lo ∧ lo ≤ hi ∧ hi ≤ (script.length : Int) ∧ (∀ k : Nat, (k : Int) < lo → script.getD k 0 ≤ x) ∧ (∀ k : Nat, hi ≤ (k : Int) → k < script.length → x < script.getD k 0)) (fun _ lo hi => (hi - lo).toNat) "lo" "hi"
  k_with "state" => first | exact br_up hs (by assumption) (by assumption) (by assumption) (by assumption) (by assumption) | exact br_down hs (by assumption) (by assumption) (by assumption) (by assumption) (by assumption)
  k_with "measure" => first | exact ms_up (by assumption) (by assumption) | exact ms_down (by assumption) (by assumption)
  refine wpAny_call ?_
  k_dflt cell_enter
  k_steps
  all_goals (refine' ret_int hret ?e ?F ?N ?S; (case F => assumption); (case N => assumption); (case S => exact fun p hp => List.mem_cons_of_mem _ hp))
  all_goals exact br_end (by assumption) (by assumption) (by assumption) (by assumption) (by assumption) (by assumption)
set_option maxRecDepth 100000 in
set_option maxHeartbeats 8000000 in
theorem bisect_left4_tells {w : World} {mean : ExcName → Option Value} {mg mb : Str → Option Value} (l : Addr) (vs : List Value) (ns : List Int) (c : Nat) (hi : IntsAre vs ns) (hlen : ns.length ≤ 64) (hs : ns.Pairwise (· ≤ ·)) (x : Int) (tx t0 : Tok) :
    Tells 2 w mean mg mb 104 [(l, listOf vs.toArray c)] [.ref l, .int x tx, .int 0 t0, .none] (fun v => ∃ t, v = .int (cl ns x) t) := by
  unfold Tells TopH prg KK
  k_fill
  intro dp un gd cn cs ad ccd cls outer A₀ base h₀ L m news s Q E B F X N0 T hk hn hd hu hret
  have N := news_dup N0 (hn _ (.head _))
  clear N0
  k_with "exec While Compare cons nil" => k_while (fun script lo hi => 0 ≤ lo ∧ lo ≤ hi ∧ hi ≤ (script.length : Int) ∧ (∀ k : Nat, (k : Int) < lo → script.getD k 0 < x) ∧ (∀ k : Nat, hi ≤ (k : Int) → k < script.length → x ≤ script.getD k 0)) (fun _ lo hi => (hi - lo).toNat) "lo" "hi"
  k_with "state" => first | exact bl_up hs (by assumption) (by assumption) (by assumption) (by assumption) (by assumption) | exact bl_down hs (by assumption) (by assumption) (by assumption) (by assumption) (by assumption)
  k_with "measure" => first | exact ms_up (by assumption) (by assumption) | exact ms_down (by assumption) (by assumption)
  refine wpAny_call ?_
  k_dflt cell_enter
  k_steps
  all_goals (refine' ret_int hret ?e ?F ?N ?S; (case F => assumption); (case N => assumption); (case S => exact fun p hp => List.mem_cons_of_mem _ hp))
  all_goals exact bl_end (by assumption) (by assumption) (by assumption) (by assumption) (by assumption) (by assumption)

end Mine
end

theorem Mine.calmW3 : True := by
  w_top off
  k_with_none
  k_with "k_ne" => (refine neN ?_; (try dsimp only); first | with_reducible assumption | with_reducible exact Ne.symm (by assumption))
  exact True.intro
section
open PySem PySem.W PyProof.Rows PySem.Calls PySem.Spec
namespace Mine
-- a def whose defaults stand in the written heap
theorem rulesW3_0 : True := by
  k_with "cell_enter" => (refine' code_def ?k1 ?k2 ?k3 ?k4 ?k5 ?kA ?kF ?kK ?k6 ?k7 ?k8 ?k9 ?kB ?_ ?c2 ?c3 ?c4 ?c5; (case kA => exact rfl); (case kF => exact rfl); (case kK => assumption); (case k1 => k_asm); (case k2 => k_asm); (case k3 => k_asm); (case k4 => k_asm); (case k5 => k_asm); (case k6 => k_is); (case k7 => k_is); (case k8 => ktr_room); (case k9 => (refine' kp_binds ?kx ?ke; (case kx => k_in); (case ke => exact fun _ => rfl))); (case c5 => decide); (case kB => exact locs rfl); (case c2 => exact rfl); (case c3 => exact rfl); (case c4 => exact rfl); k_whole; intro g' L' h' FG' F' N' B' X' T'; (try dsimp only); (try k_lift B'); (try k_fold))
  exact True.intro
theorem cl_le (ns : List Int) (x : Int) : 0 ≤ cl ns x ∧ cl ns x ≤ ns.length := by
  unfold cl
  have := List.countP_le_length (p := fun k => decide (k < x)) (l := ns)
  omega
theorem fits_idx {ns : List Int} {x : Int} (h : ns.length ≤ 64) : Builtin.List.listFitsIndex (cl ns x) = true := by
  have := (cl_le ns x)
  unfold Builtin.List.listFitsIndex
  simp
  omega
theorem fits_len {vs : List Value} {ns : List Int} (hi : IntsAre vs ns) (h : ns.length ≤ 64) : vs.toArray.toList.length ≤ sizeLine := by
  have := hi.length
  rw [sizeLine_eq]; simp; omega
def ins (ns : List Int) (x : Int) : List Int := ns.take (cl ns x).toNat ++ x :: ns.drop (cl ns x).toNat
theorem ins_ints {vs : List Value} {ns : List Int} {x : Int} {t : Tok} (hi : IntsAre vs ns) : IntsAre (kl_ins vs (cl ns x) (.int x t)) (ins ns x) := by
  obtain ⟨h0, h1⟩ := cl_le ns x
  have hl := hi.length
  unfold kl_ins ins
  rw [if_neg (by omega), Nat.min_eq_left (by omega)]
  exact (hi.take _).append (.cons _ _ (hi.drop _))
theorem rulesW3_1 : True := by
  k_with "call builtin:list.insert" => (k_here; (with_reducible show wpAny _ _ (call (Value.builtin _) [Value.ref _, Value.int _ _, _]) _ _ _); k_dflt (refine' kl_insert ?F ?N ?f ?e ?U ?z ?_; (case F => k_asm); (case N => k_asm); (case U => exact Upd.head (by assumption)); (case f => exact fits_idx (by assumption)); (case e => rfl); (case z => exact fits_len (by assumption) (by assumption))); intro h' F' N')
  k_with "call ref" => (k_here; (with_reducible show wpAny _ _ (call (Value.ref _) [Value.ref _, Value.int _ _, Value.int _ _, Value.none]) _ _ _); k_dflt (refine' Tells.use ?k1 ?k2 ?k3 ?k4 ?k5 ?kK (bisect_left4_tells _ _ _ _ ?hi ?hl ?hs _ _ _) ?kn ?kd ?ku ?_); (case k1 => k_asm); (case k2 => k_asm); (case k3 => k_asm); (case k4 => k_asm); (case k5 => k_asm); (case kK => exact rfl); (case kn => exact need1 (by k_mem)); (case hi => assumption); (case hl => assumption); (case hs => assumption); (case kd => ktr_room); (case ku => ktr_units); intro v' h' tk' hR F' N'; obtain ⟨t', hE'⟩ := hR; subst hE'; (try dsimp only))
  exact True.intro
set_option maxRecDepth 100000 in
set_option maxHeartbeats 8000000 in
theorem insort_left_tells {w : World} {mean : ExcName → Option Value} {mg mb : Str → Option Value} (l : Addr) (vs : List Value) (ns : List Int) (c : Nat) (hi : IntsAre vs ns) (hlen : ns.length ≤ 64) (hs : ns.Pairwise (· ≤ ·)) (x : Int) (tx : Tok) 
   {dp un : Nat} {gd : Option (List Code)} {cn : Str} {cs : Scope} {ad : Addr} {ccd : Value} {cls : List (Str × Addr)} {outer : List Env} {A₀ : Around} {base h₀ : Heap} {L : Addr} {m : Str → Option Value} {rest : List (Addr × Obj)} {s : Shared} {Q E : Value → Shared → Prop}
    (B : Below A₀ base outer h₀) (F : Fr h₀ L s.heap m) (X : (KK w).In h₀) (N : News h₀ L s.heap ((l, listOf vs.toArray c) :: rest)) (T : TopH mean mg mb h₀) (hk : cs.kind = .function)
    (hne : ∀ p ∈ rest, p.1 ≠ l) (hd : dp + 3 < recursionLimit) (hu : un + 24 < cLine)
    (ret : ∀ vs' h' tk', IntsAre vs' (ins ns x) → Fr h₀ L h' m → News h₀ L h' ((l, listOf vs'.toArray (c + 1)) :: rest) → Q .none { s with heap := h', toks := tk' }) :
    wpAny (model prg w) (ktrTop dp un gd cn cs L ad ccd cls outer) (call (.ref 95) [.ref l, .int x tx]) Q E s := by
  revert X T
  unfold prg KK TopH
  k_fill
  intro X T
  refine wpAny_call ?_
  k_dflt cell_enter
  k_steps
  all_goals (refine' ret _ _ _ ?I ?F ?N; (case F => assumption); (case N => assumption); (case I => exact ins_ints hi))
end Mine
end

theorem Mine.calmP2 : True := by
  w_top off
  k_with_none
  k_with "k_ne" => (refine neN ?_; (try dsimp only); first | with_reducible assumption | with_reducible exact Ne.symm (by assumption))
  exact True.intro
section
namespace Mine
/-- the letters that Int2AP writes, the highest first -/
def hexW (n : Nat) : List UInt8 := if h : n = 0 then [] else hexW (n / 16) ++ [UInt8.ofNat (65 + n % 16)]
termination_by n
decreasing_by omega
theorem hexW_zero : hexW 0 = [] := by rw [hexW]; simp
theorem hexW_pos {n : Nat} (h : n ≠ 0) : hexW n = hexW (n / 16) ++ [UInt8.ofNat (65 + n % 16)] := by rw [hexW]; simp [h]
theorem hexW_length (k : Nat) : ∀ n : Nat, n < 16 ^ k → (hexW n).length ≤ k := by
  induction k with
  | zero => intro n h; have : n = 0 := by simpa using h
            subst this; simp [hexW_zero]
  | succ k ih =>
    intro n h
    by_cases h0 : n = 0
    · subst h0; simp [hexW_zero]
    · rw [hexW_pos h0, List.length_append]
      have := ih (n / 16) (by rw [Nat.pow_succ] at h; omega)
      simp; omega
end Mine
end

theorem Mine.calmW4 : True := by
  w_top off
  k_with_none
  k_with "k_ne" => (refine neN ?_; (try dsimp only); first | with_reducible assumption | with_reducible exact Ne.symm (by assumption))
  exact True.intro
section
open PySem PySem.W PyProof.Rows PySem.Calls PySem.Spec PyProof.V
namespace Mine
theorem picked_ap : ∀ i : Nat, i < 16 → KBy.picked #[65, 66, 67, 68, 69, 70, 71, 72, 73, 74, 75, 76, 77, 78, 79, 80] (some (i : Int)) (some ((i : Int) + 1)) = #[UInt8.ofNat (65 + i)] := by
  decide +kernel
section
variable {prog : Program} {w : World} {A : Around} {E : Value → Shared → Prop} {s : Shared} {value slice : PySem.Expr} {t u u' : Tok} {h₀ : Heap} {L : Addr} {m : PySem.Str → Option Value} {news : List (Addr × Obj)} {Q : Value → Shared → Prop} {i : Int}
theorem ap_cut (hF : Fr h₀ L s.heap m) (hN : News h₀ L s.heap news) (h0 : 0 ≤ i) (h1 : i < 16)
    (h : ∀ h' t' k, Fr h₀ L h' m → News h₀ L h' news → Q (.bytes #[UInt8.ofNat (65 + i.toNat)] t') { s with heap := h', toks := k })
    (hs : subscripted slice false (.bytes #[65, 66, 67, 68, 69, 70, 71, 72, 73, 74, 75, 76, 77, 78, 79, 80] t) (.ref s.heap.objs.size) = operate [.ref s.heap.objs.size, .bytes #[65, 66, 67, 68, 69, 70, 71, 72, 73, 74, 75, 76, 77, 78, 79, 80] t] (getItem (.bytes #[65, 66, 67, 68, 69, 70, 71, 72, 73, 74, 75, 76, 77, 78, 79, 80] t) (.ref s.heap.objs.size)) := by with_unfolding_all rfl)
    (ht : ∀ r, letTemporaryGo value (.bytes #[65, 66, 67, 68, 69, 70, 71, 72, 73, 74, 75, 76, 77, 78, 79, 80] t) r = pure () := by intro _; with_unfolding_all rfl) :
    wpAny (model prog w) A (subscriptTail value slice (.bytes #[65, 66, 67, 68, 69, 70, 71, 72, 73, 74, 75, 76, 77, 78, 79, 80] t) (.ref s.heap.objs.size)) Q E { s with heap := s.heap.push { cls := .type "slice", data := .fields #[.int i u, .int (i + 1) u', .none] } } := by
  refine KBc.slice_K (lo := some i) (hi := some (i + 1)) hF hN rfl (by constructor) (by constructor) (by decide) (fun h' t' k F' N' _ => ?_) hs ht
  have e := picked_ap i.toNat (by omega)
  rw [Int.toNat_of_nonneg h0] at e
  rw [e]
  exact h h' t' k F' N'
end
theorem fmod_in (x : Int) : 0 ≤ Int.fmod x 16 ∧ Int.fmod x 16 < 16 := by
  rw [Int.fmod_eq_emod_of_nonneg _ (by omega)]; omega
theorem ap_start (n : Nat) (h : n < 16 ^ 16) : 0 ≤ (if (n : Int) < 0 then -(n : Int) else n) ∧ (if (n : Int) < 0 then -(n : Int) else n) < 16 ^ 16 ∧ (#[] : Array UInt8).size + (hexW (if (n : Int) < 0 then -(n : Int) else n).toNat).length ≤ 16 ∧ (hexW n).toArray = (hexW (if (n : Int) < 0 then -(n : Int) else n).toNat).toArray ++ (#[] : Array UInt8) := by
  rw [if_neg (by omega)]
  refine ⟨by omega, by omega, ?_, by simp⟩
  simpa using hexW_length 16 n h
theorem ap_turn {n : Nat} {num : Int} {val : Array UInt8} (h0 : 0 ≤ num) (h1 : num < 16 ^ 16) (h2 : val.size + (hexW num.toNat).length ≤ 16) (h3 : (hexW n).toArray = (hexW num.toNat).toArray ++ val) (h : num ≠ 0) :
    0 ≤ Int.fdiv num 16 ∧ Int.fdiv num 16 < 16 ^ 16 ∧ (#[UInt8.ofNat (65 + (Int.fmod num 16).toNat)] ++ val).size + (hexW (Int.fdiv num 16).toNat).length ≤ 16 ∧ (hexW n).toArray = (hexW (Int.fdiv num 16).toNat).toArray ++ (#[UInt8.ofNat (65 + (Int.fmod num 16).toNat)] ++ val) := by
  rw [Int.fdiv_eq_ediv_of_nonneg _ (by omega), Int.fmod_eq_emod_of_nonneg _ (by omega)]
  have e1 : (num / 16).toNat = num.toNat / 16 := by omega
  have e2 : (num % 16).toNat = num.toNat % 16 := by omega
  rw [hexW_pos (n := num.toNat) (by omega)] at h2 h3
  rw [e1, e2]
  refine ⟨by omega, by omega, ?_, ?_⟩
  · simp at h2 ⊢; omega
  · rw [h3]; simp
theorem ap_size {n : Nat} {num : Int} {val : Array UInt8} (h2 : val.size + (hexW num.toNat).length ≤ 16) : val.size ≤ 16 := by omega
theorem ap_less {num : Int} (h0 : 0 ≤ num) (h : num ≠ 0) : (Int.fdiv num 16).toNat < num.toNat := by
  rw [Int.fdiv_eq_ediv_of_nonneg _ (by omega)]; omega
theorem ap_end {n : Nat} {num : Int} {val : Array UInt8} (h3 : (hexW n).toArray = (hexW num.toNat).toArray ++ val) (h : num = 0) : val = (hexW n).toArray := by
  subst h
  rw [h3]
  simp [hexW_zero]
theorem ret_bytes {h₀ h' : Heap} {L : Addr} {m : Str → Option Value} {news news' : List (Addr × Obj)} {s : Shared} {Q : Value → Shared → Prop} {x y : Array UInt8} {t : Tok} {tk' : Nat}
    (hret : ∀ v h' tk', (∃ t, v = Value.bytes x t) → Fr h₀ L h' m → News h₀ L h' news → Q v { s with heap := h', toks := tk' }) (e : y = x) (F : Fr h₀ L h' m) (N : News h₀ L h' news') (hs : ∀ p ∈ news, p ∈ news') :
    Q (.bytes y t) { s with heap := h', toks := tk' } := hret _ _ _ ⟨t, by rw [e]⟩ F fun p hp => N p (hs p hp)
theorem rulesW4_0 : True := by
  k_with "subscriptTail" => (k_here; (with_reducible show wpAny _ _ (subscriptTail _ (Expr.Slice _ _ none _) (Value.bytes _ _) (Value.ref _)) _ _ _); (with_reducible rename Fr _ _ _ _ => F'); (with_reducible rename News _ _ _ _ => N'); (refine ap_cut (s := ⟨_, _, _, _, _⟩) F' N' (fmod_in _).1 (fmod_in _).2 ?_); intro h' t' k' F' N')
  exact True.intro
set_option maxRecDepth 100000 in
set_option maxHeartbeats 8000000 in
theorem Int2AP_tells {w : World} {mean : ExcName → Option Value} {mg mb : Str → Option Value} (n : Nat) (hn0 : n < 16 ^ 16) (tx : Tok) :
    Tells 1 w mean mg mb 111 [] [.int (n : Int) tx] (fun v => ∃ t, v = .bytes (hexW n).toArray t) := by
  unfold Tells TopH prg KK
  k_fill
  intro dp un gd cn cs ad ccd cls outer A₀ base h₀ L m news s Q E B F X N T hk hn hd hu hret
  k_with "exec While Name cons nil" => k_while (fun _ num val => 0 ≤ num ∧ num < 16 ^ 16 ∧ val.size + (hexW num.toNat).length ≤ 16 ∧ (hexW n).toArray = (hexW num.toNat).toArray ++ val) (fun _ num _ => num.toNat) "num" "val"
  k_with "state" => first | exact ap_start n hn0 | exact ap_turn (by assumption) (by assumption) (by assumption) (by assumption) (by assumption)
  k_with "measure" => exact ap_less (by assumption) (by assumption)
  refine wpAny_call ?_
  k_dflt cell_enter
  k_steps
  all_goals (refine' ret_bytes hret ?e ?F ?N ?S; (case F => assumption); (case N => assumption); (case S => exact fun p hp => hp); (case e => exact ap_end (by assumption) (by first | assumption | omega)))
end Mine
end

theorem Mine.calmP3 : True := by
  w_top off
  k_with_none
  k_with "k_ne" => (refine neN ?_; (try dsimp only); first | with_reducible assumption | with_reducible exact Ne.symm (by assumption))
  exact True.intro
section
open PySem
namespace Mine
/-- no run takes a token back -/
theorem runs_toks {M : Model} {Γ : Ctx} {p : Pos} {t : Sem Fin} {fs : List Frame} {s s' : Shared} {e : End} (h : Runs M Γ p t fs s e s') : s.toks ≤ s'.toks := by
  have hg : ∀ (s : Shared) g st, (s.setGen g st).toks = s.toks := fun _ _ _ => rfl
  induction h <;> simp only [hg] at * <;> omega
theorem wp_toks {α : Type} {M : Model} {Γ : Ctx} (t : Sem α) : ∀ {Q : α → Pos → Shared → Prop} {E : Value → Pos → Shared → Prop} {p : Pos} {s : Shared} (n : Nat), n ≤ s.toks → Sem.wp M Γ t Q E p s →
    Sem.wp M Γ t (fun a p' s' => n ≤ s'.toks ∧ Q a p' s') (fun e p' s' => n ≤ s'.toks ∧ E e p' s') p s := by
  induction t with
  | pure a => intro Q E p s n hn h; exact ⟨hn, h⟩
  | raise e => intro Q E p s n hn h; exact ⟨hn, h⟩
  | unsupported w => intro Q E p s n hn h; exact h
  | finish e => intro Q E p s n hn h; exact h
  | rule _ k ih => intro Q E p s n hn h; exact ih _ n hn h
  | «at» _ k ih => intro Q E p s n hn h; exact ih _ n hn h
  | load a _ k ih => intro Q E p s n hn h; obtain ⟨o, ho, h⟩ := h; exact ⟨o, ho, ih _ n hn h⟩
  | update a _ f k ih => intro Q E p s n hn h; obtain ⟨ho, h⟩ := h; exact ⟨ho, ih _ n hn h⟩
  | alloc o k ih => intro Q E p s n hn h; exact ih _ n (by exact hn) h
  | loadIfAlive a k ih => intro Q E p s n hn h; exact ih _ n hn h
  | point _ k ih => intro Q E p s n hn h; exact ih _ n hn h
  | register a k ih => intro Q E p s n hn h; exact h
  | fresh k ih => intro Q E p s n hn h; exact ih _ n (Nat.le_succ_of_le hn) h
  | ask k ih => intro Q E p s n hn h; exact ih _ n hn h
  | choose src m k ih => intro Q E p s n hn h; obtain ⟨h0, h⟩ := h; exact ⟨h0, ih _ n (by exact hn) h⟩
  | os q _ k ih => intro Q E p s n hn h; exact ih _ n (by exact hn) h
  | call c hd _ _ k ih =>
    intro Q E p s n hn h
    obtain ⟨r, s₁, hr, h⟩ := h
    exact ⟨r, s₁, hr, ih _ n (Nat.le_trans hn (runs_toks hr)) h⟩
  | handled own k ih => intro Q E p s n hn h; exact ih _ n hn h
  | newGen c k ih => intro Q E p s n hn h; exact ih _ n (by exact hn) h
  | genState g k ih => intro Q E p s n hn h; obtain ⟨st, hs, h⟩ := h; exact ⟨st, hs, ih _ n hn h⟩
  | resume g r _ k ih =>
    intro Q E p s n hn h
    obtain ⟨res, s₁, hw, h⟩ := h
    refine ⟨res, s₁, hw, ih _ n (Nat.le_trans hn ?_) h⟩
    unfold Wakes at hw
    split at hw
    · exact hw.elim
    · split at hw
      · obtain ⟨e₁, s₂, hr, _, _, rfl⟩ := hw
        have z := runs_toks hr
        exact z
      · obtain ⟨_, rfl⟩ := hw; exact Nat.le_refl _
      · obtain ⟨_, rfl⟩ := hw; exact Nat.le_refl _
    · obtain ⟨e₁, s₂, hr, _, _, rfl⟩ := hw
      have z := runs_toks hr
      exact z
    · obtain ⟨_, rfl⟩ := hw; exact Nat.le_refl _
    · obtain ⟨_, rfl⟩ := hw; exact Nat.le_refl _
  | yield v g l k ih => intro Q E p s n hn h; exact h
  | stack k ih => intro Q E p s n hn h; exact ih _ n hn h
  | fork c k ih => intro Q E p s n hn h; exact h
  | thread k ih => intro Q E p s n hn h; exact ih _ n hn h
  | await a f d l k ih => intro Q E p s n hn h; exact h
/-- what a tree comes to, its token count taken along -/
theorem toks_cut {α : Type} {M : Model} {A : Around} {t : Sem α} {Q : α → Shared → Prop} {E : Value → Shared → Prop} {s : Shared}
    (h : wpAny M A t (fun a s' => s.toks ≤ s'.toks → Q a s') (fun e s' => s.toks ≤ s'.toks → E e s') s) : wpAny M A t Q E s := fun Γ p hΓ => by
  have h1 := wp_toks t s.toks (Nat.le_refl _) (h Γ p hΓ)
  exact Sem.wp_mono M Γ t (fun a _ s' x => x.2 x.1) (fun e _ s' x => x.2 x.1) p s h1
end Mine
end

theorem Mine.calmW5 : True := by
  w_top off
  k_with_none
  k_with "k_ne" => (refine neN ?_; (try dsimp only); first | with_reducible assumption | with_reducible exact Ne.symm (by assumption))
  exact True.intro
section
open PySem PySem.W PyProof.Rows PySem.Calls PySem.Spec PyProof.V
namespace Mine
def cnt (ks : List Int) (k : Int) : Int := (ks.countP (fun i => decide (i = k)) : Nat)

section
variable {M : Model} {A : Around} {E : Value → Shared → Prop} {s : Shared} {Q : Value → Shared → Prop} {p q : Int} {t u : Tok}
theorem is_int_small (hp : 0 ≤ p ∧ p < 256) (ht : 0 < t) (hu : 0 < u) (hne : t ≠ u) (h : Q (.bool (decide (p = q))) s) : wpAny M A (compareOp .Is (.int p t) (.int q u)) Q E s := by
  show wpAny M A (isSame (.int p t) (.int q u) >>= fun b => pure (Value.bool b)) Q E s
  refine wpAny_bind ?_
  show wpAny M A (if (p == q && smallInt p) = true then isSame.cachedInt t u else isSame.created (p == q) t u) _ E s
  have h0 : (t == 0 || u == 0) = false := by
    simp only [Bool.or_eq_false_iff, beq_eq_false_iff_ne]
    exact ⟨fun e => Nat.lt_irrefl 0 (e ▸ ht), fun e => Nat.lt_irrefl 0 (e ▸ hu)⟩
  by_cases e : p = q
  · have hs : smallInt p = true := by unfold smallInt; simp only [Bool.and_eq_true, decide_eq_true_eq]; omega
    rw [if_pos (by rw [hs]; simpa using e)]
    unfold isSame.cachedInt
    rw [if_neg (by rw [h0]; exact Bool.false_ne_true)]
    rw [decide_eq_true e] at h
    exact wpAny_bind (wpAny_rule (wpAny_pure (wpAny_pure h)))
  · rw [if_neg (by simp [e])]
    unfold isSame.created
    have e2 : (p == q) = false := by simpa using e
    rw [decide_eq_false e] at h
    rw [if_neg (by rw [h0]; exact Bool.false_ne_true), if_neg (by simpa using hne), if_pos (by rw [e2]; rfl)]
    exact wpAny_pure (wpAny_pure h)
end

section
variable {prog : Program} {w : World} {A : Around} {s : Shared} {env : Env} {h₀ : Heap}
def BT (h₀ : Heap) (L : Addr) (s : Shared) (own news : List (Addr × Obj)) (J : (Str → Option Value) → Prop) (f : Flow) (s₂ : Shared) : Prop :=
  f = .next ∧ ∃ h' tk' m', s₂ = { s with heap := h', toks := tk' } ∧ Fr h₀ L h' m' ∧ News h₀ L h' (own ++ news) ∧ J m'
theorem forLoop_bytesT {R : Result → Shared → Prop} {x : Str} {px : Pos} {body : List Stmt} {I : Addr} {b : Array UInt8} {t : Tok} {m : Str → Option Value} {news : List (Addr × Obj)} {T : Nat}
    (hh : A.handled = none) (hx : env.kindOf x = some .local) (hp : (env.scope.kind == .class || (env.scope.kind == .module && env.locals != env.globals)) = false)
    (hIL : env.locals ≠ I) (hI0 : h₀.get? I = none) (hNI : ∀ p ∈ news, p.1 ≠ I) (hst : KBw.IsBytesIter s.heap I b t 0) (F : Fr h₀ env.locals s.heap m) (N : News h₀ env.locals s.heap news) (hT : T ≤ s.toks)
    (J : Nat → (Str → Option Value) → Prop) (h0 : J 0 m)
    (step : ∀ i c u m₁ h tk own, b[i]? = some c → T ≤ u → J i m₁ → Fr h₀ env.locals h (fun y => if y = x then some (.int (c.toNat : Int) u) else m₁ y) → News h₀ env.locals h (own ++ news) →
      wpAny (model prog w) A (execs body env) (BT h₀ env.locals s own news (J (i + 1))) (notedBy (model prog w) A env fun e s' => R (.error e) s') { s with heap := h, toks := tk })
    (hR : ∀ h' tk m', Fr h₀ env.locals h' m' → News h₀ env.locals h' news → J b.size m' → R (.ok .next) { s with heap := h', toks := tk }) :
    codeAny (model prog w) A (.forLoop (.Name x px) (.ref I) body [] env) R s := by
  refine codeAny_forLoop
    (fun k s' => ∃ h' tk m' i, s' = { s with heap := h', toks := tk } ∧ KBw.IsBytesIter h' I b t i ∧ Fr h₀ env.locals h' m' ∧ News h₀ env.locals h' news ∧ J i m' ∧ i ≤ b.size ∧ k = b.size + 1 - i ∧ T ≤ tk) ?_ (b.size + 1)
    ⟨s.heap, s.toks, m, 0, rfl, hst, F, N, h0, Nat.zero_le _, rfl, hT⟩
  rintro k s' ⟨h', tk, m', i, rfl, hst', F', N', hJ, hi, rfl, hTk⟩
  have next : ∀ h₁ : Heap, (∀ c o, c ≠ I → h'.get? c = some o → h₁.get? c = some o) → Fr h₀ env.locals h₁ m' ∧ News h₀ env.locals h₁ news := fun h₁ hk₁ =>
    ⟨⟨F'.ns.at' fun o e => hk₁ _ o hIL e, fun c o e => hk₁ c o (fun q => by rw [q, hI0] at e; cases e) (F'.keep c o e), F'.above⟩, fun p hp => ⟨hk₁ _ _ (hNI p hp) (N' p hp).1, (N' p hp).2⟩⟩
  by_cases hlt : i < b.size
  · refine KBw.next_item hst' (c := b[i]) (by simp [hlt]) fun h₁ hit₁ hs₁ => ?_
    obtain ⟨F₁, N₁⟩ := next h₁ fun c o hc e => hs₁.extBut c o hc e
    refine wpAny_assign_Name (wpAny_storeName_local hx F₁.ns (fun h₂ hn₂ hs₂ => ?_) hp)
    have F₂ := F₁.set hn₂ hs₂
    have N₂ := N₁.set hs₂
    obtain ⟨oI, hoI, hcI, hdI⟩ := hit₁
    have hoI₂ : h₂.get? I = some oI := (hs₂.2 I (Ne.symm hIL)).trans hoI
    have Nown : News h₀ env.locals h₂ ([(I, oI)] ++ news) := fun p hp => by
      rcases List.mem_append.mp hp with hp | hp
      · rw [List.mem_singleton.mp hp]; exact ⟨hoI₂, Ne.symm hIL, hI0⟩
      · exact N₂ p hp
    refine toks_cut (wpAny_mono (step i b[i] tk m' h₂ _ [(I, oI)] (by simp [hlt]) hTk hJ F₂ Nown) (fun f s₃ h₃ ht => ?_) fun _ _ e _ => e)
    obtain ⟨rfl, h₃', tk₃, m₃, rfl, F₃, N₃, hJ₃⟩ := h₃
    refine ⟨b.size + 1 - (i + 1), by omega, h₃', tk₃, m₃, i + 1, rfl, ⟨oI, (N₃ (I, oI) (List.mem_append_left _ (.head _))).1, hcI, hdI⟩, F₃, fun p hp => N₃ p (List.mem_append_right _ hp), hJ₃, hlt, rfl, ?_⟩
    have h9 : tk + 1 + 1 ≤ tk₃ := ht
    omega
  · have hin : i = b.size := by omega
    subst hin
    refine KBw.next_end hh hst' (by simp) fun h₁ hk₁ => wpAny_execs_nil ?_
    obtain ⟨F₁, N₁⟩ := next h₁ fun c o hc e => hk₁ c o hc e
    exact hR h₁ tk m' F₁ N₁ hJ

theorem For_bytesT {E : Value → Shared → Prop} {Q : Flow → Shared → Prop} {x : Str} {px pos : Pos} {iter : Expr} {body : List Stmt} {b : Array UInt8} {t : Tok} {m : Str → Option Value} {news : List (Addr × Obj)}
    (F : Fr h₀ env.locals s.heap m) (N : News h₀ env.locals s.heap news) (hh : A.handled = none) (hx : env.kindOf x = some .local) (hp : (env.scope.kind == .class || (env.scope.kind == .module && env.locals != env.globals)) = false)
    (he : ∀ Q', Q' (.bytes b t) s → wpAny (model prog w) A (eval iter env) Q' E s)
    (J : Nat → (Str → Option Value) → Prop) (h0 : J 0 m)
    (step : ∀ i c u m₁ h tk own, b[i]? = some c → s.toks ≤ u → J i m₁ → Fr h₀ env.locals h (fun y => if y = x then some (.int (c.toNat : Int) u) else m₁ y) → News h₀ env.locals h (own ++ news) →
      wpAny (model prog w) A (execs body env) (BT h₀ env.locals s own news (J (i + 1))) E { s with heap := h, toks := tk })
    (hQ : ∀ h' tk m', Fr h₀ env.locals h' m' → News h₀ env.locals h' news → J b.size m' → Q .next { s with heap := h', toks := tk })
    (hs : ∀ x, foldedSetIterable iter env x = pure x := by intro _; rfl)
    (hE : PassesOwn (model prog w) A env E := by passes_own) :
    wpAny (model prog w) A (exec (.For (.Name x px) iter body [] pos) env) Q E s := by
  refine wpAny_For (he _ (KBw.pyIter_bytes ?_)) hs
  have hlt := F.ns.lt
  refine forLoop_bytesT (s := ⟨_, _, _, _, _⟩) (R := fun r s' => match r with | .ok f => Q f s' | .error e => cameBackBy (model prog w) A env E e s') (T := s.toks) hh hx hp (Nat.ne_of_lt hlt) (next_is_new F) (fun p hp => Nat.ne_of_lt (Heap.lt_size (N p hp).1)) ⟨_, Heap.get?_push_size _ rfl, rfl, rfl⟩ (F.push _)
    (fun p hp => ⟨Heap.get?_push_of_some _ (N p hp).1, (N p hp).2⟩) (Nat.le_refl _) J h0 (by intros; exact wpAny_passesOwn hE (by apply step <;> assumption)) hQ
end
end Mine
end

theorem Mine.calmW6 : True := by
  w_top off
  k_with_none
  k_with "k_ne" => (refine neN ?_; (try dsimp only); first | with_reducible assumption | with_reducible exact Ne.symm (by assumption))
  exact True.intro
section
open PySem PySem.W PyProof.Rows PySem.Calls PySem.Spec PyProof.V
namespace Mine
theorem map2 {m : Str → Option Value} {y₁ y₂ : Str} {v₁ v₂ : Value} (h₁ : m y₁ = some v₁) (h₂ : m y₂ = some v₂) : m = fun y => if y = y₁ then some v₁ else if y = y₂ then some v₂ else m y := by
  funext y
  by_cases e₁ : y = y₁
  · subst e₁; simp [h₁]
  · by_cases e₂ : y = y₂
    · subst e₂; simp [e₁, h₂]
    · simp [e₁, e₂]
theorem fr2 {h₀ h : Heap} {L : Addr} {m : Str → Option Value} {x y₁ y₂ : Str} {v₁ v₂ : Value} {v : Option Value} (F : Fr h₀ L h (fun y => if y = x then v else m y)) (h₁ : m y₁ = some v₁) (h₂ : m y₂ = some v₂) :
    Fr h₀ L h (fun y => if y = x then v else if y = y₁ then some v₁ else if y = y₂ then some v₂ else m y) := by
  have e := map2 h₁ h₂
  have e2 : (fun y => if y = x then v else m y) = fun y => if y = x then v else if y = y₁ then some v₁ else if y = y₂ then some v₂ else m y := by
    funext y
    split
    · rfl
    · exact congrFun e y
  rw [← e2]; exact F
theorem rulesW6_0 : True := by
  k_with "compareOp Is int int" => (k_here; refine is_int_small (by assumption) (by assumption) (by assumption) (by assumption) ?_)
  exact True.intro
theorem byte_in (c : UInt8) : 0 ≤ (c.toNat : Int) ∧ (c.toNat : Int) < 256 := by
  have := c.toNat_lt
  omega
theorem cnt_step {b : Array UInt8} {i : Nat} {c : UInt8} {k : Int} (h : b[i]? = some c) : cnt ((KBw.bInts b).take (i + 1)) k = cnt ((KBw.bInts b).take i) k + (if (c.toNat : Int) = k then 1 else 0) := by
  have e := KBw.ints_get h
  rw [List.take_add_one, e]
  unfold cnt
  rw [List.countP_append]
  by_cases q : (c.toNat : Int) = k
  · rw [if_pos q]; simp [q]
  · rw [if_neg q]; simp [q]
set_option maxRecDepth 100000 in
set_option maxHeartbeats 8000000 in
theorem countOf_tells {w : World} {mean : ExcName → Option Value} {mg mb : Str → Option Value} (b : Array UInt8) (tb : Tok) (k : Int) (tk0 : Tok) (hk1 : 0 < tk0)
   {dp un : Nat} {gd : Option (List Code)} {cn : Str} {cs : Scope} {ad : Addr} {ccd : Value} {cls : List (Str × Addr)} {outer : List Env} {A₀ : Around} {base h₀ : Heap} {L : Addr} {m : Str → Option Value} {news : List (Addr × Obj)} {s : Shared} {Q E : Value → Shared → Prop}
    (B : Below A₀ base outer h₀) (F : Fr h₀ L s.heap m) (X : (KK w).In h₀) (N : News h₀ L s.heap news) (T : TopH mean mg mb h₀) (hk : cs.kind = .function)
    (hd : dp + 1 < recursionLimit) (hu : un + 8 < cLine) (hk2 : tk0 < s.toks)
    (hret : ∀ v h' tk', (∃ t, v = Value.int (cnt (KBw.bInts b) k) t) → Fr h₀ L h' m → News h₀ L h' news → Q v { s with heap := h', toks := tk' }) :
    wpAny (model prg w) (ktrTop dp un gd cn cs L ad ccd cls outer) (call (.ref 28) [.bytes b tb, .int k tk0]) Q E s := by
  revert X T
  unfold prg KK TopH
  k_fill
  intro X T
  refine wpAny_call ?_
  k_dflt cell_enter
  generalize hTk : Shared.toks s + _ = tk9
  iterate 5 (first | walk1 | (dsimp only; walk1))
  (rename Fr _ _ _ _ => lF'); (rename News _ _ _ _ => lN')
  refine For_bytesT (b := b) (t := tb) lF' lN' rfl rfl rfl ?he (fun i m' => (∃ t, m' (Str.ofString "count") = some (.int (cnt ((KBw.bInts b).take i) k) t)) ∧ m' (Str.ofString "b") = some (.int k tk0)) ⟨⟨_, rfl⟩, rfl⟩ ?step ?hQ
  case he =>
    intro Q' hQ'
    k_steps
    exact hQ'
  case hQ =>
    rintro h1 tk1 m1 F1 N1 ⟨⟨tc, hcnt⟩, hb⟩
    rw [map2 hcnt hb] at F1
    dsimp only
    k_steps
    refine' ret_int hret ?e ?F ?N ?S
    (case F => assumption)
    (case N => assumption)
    (case S => exact fun p hp => hp)
    (case e => rw [List.take_of_length_le (by rw [KBw.ints_length]; exact Nat.le_refl _)])
  case step =>
    rintro i c u m₁ h tk own hc hTu ⟨⟨tc, hcnt⟩, hb⟩ F1 N1
    dsimp only at hTu
    have F2 := fr2 F1 hcnt hb
    clear F1
    have hb0 := byte_in c
    have hu0 : 0 < u := by show @LT.lt Nat _ 0 u; omega
    have hk2' : @LT.lt Nat _ tk0 s.toks := hk2
    have hu1 : u ≠ tk0 := by
      refine Nat.ne_of_gt ?_
      show @LT.lt Nat _ tk0 u
      omega
    k_steps
    all_goals refine ⟨rfl, _, _, _, rfl, by assumption, by assumption, ⟨_, congrArg some (congrArg (fun z => Value.int z _) ?_)⟩, rfl⟩
    all_goals rw [cnt_step hc]
    all_goals simp_all
end Mine
end

theorem Mine.calmP4 : True := by
  w_top off
  k_with_none
  k_with "k_ne" => (refine neN ?_; (try dsimp only); first | with_reducible assumption | with_reducible exact Ne.symm (by assumption))
  exact True.intro
section
namespace Mine
theorem hexW_head : ∀ (k n : Nat), 16 ^ k ≤ n → n < 16 ^ (k + 1) → ∃ r, hexW n = UInt8.ofNat (65 + n / 16 ^ k) :: r ∧ r.length = k
  | 0, n, h1, h2 => by
    simp at h1 h2
    refine ⟨[], ?_, rfl⟩
    rw [hexW_pos (by omega), Nat.div_eq_of_lt (by omega), hexW_zero]
    simp
    congr 1
    rw [Nat.mod_eq_of_lt (by omega)]
  | k + 1, n, h1, h2 => by
    have e1 : 16 ^ (k + 1) = 16 ^ k * 16 := Nat.pow_succ ..
    have e2 : 16 ^ (k + 1 + 1) = 16 ^ (k + 1) * 16 := Nat.pow_succ ..
    have hp : 0 < 16 ^ k := Nat.pow_pos (by omega)
    obtain ⟨r, hr, hl⟩ := hexW_head k (n / 16) (by omega) (by omega)
    refine ⟨r ++ [UInt8.ofNat (65 + n % 16)], ?_, by simp [hl]⟩
    rw [hexW_pos (by omega), hr, Nat.div_div_eq_div_mul, Nat.mul_comm 16, ← e1]
    rfl
theorem exists_hex {n : Nat} (h : 0 < n) (hn : n < 16 ^ 16) : ∃ k, k < 16 ∧ 16 ^ k ≤ n ∧ n < 16 ^ (k + 1) := by
  have : ∀ j, n < 16 ^ j → ∃ k, k < j ∧ 16 ^ k ≤ n ∧ n < 16 ^ (k + 1) := by
    intro j
    induction j with
    | zero => intro hj; simp at hj; omega
    | succ j ih =>
      intro hj
      by_cases hc : n < 16 ^ j
      · obtain ⟨k, a, b, c⟩ := ih hc
        exact ⟨k, by omega, b, c⟩
      · exact ⟨j, by omega, by omega, hj⟩
  exact this 16 hn
def br4 (x : Int) : Int := if x < 66 then 0 else if x < 67 then 1 else if x < 69 then 2 else if x < 73 then 3 else 4
theorem br4_log' : ∀ d : Nat, d < 16 → 1 ≤ d → br4 ((UInt8.ofNat (65 + d)).toNat : Int) = 1 + (Nat.log2 d : Nat) := by decide +kernel
theorem br4_log (d : Nat) (h1 : 1 ≤ d) (h2 : d < 16) : br4 ((UInt8.ofNat (65 + d)).toNat : Int) = 1 + (Nat.log2 d : Nat) := br4_log' d h2 h1
theorem log2_hex {n k : Nat} (h1 : 16 ^ k ≤ n) (h2 : n < 16 ^ (k + 1)) : Nat.log2 n = 4 * k + Nat.log2 (n / 16 ^ k) := by
  have hp : 0 < 16 ^ k := Nat.pow_pos (by omega)
  have e16 : 16 ^ k = 2 ^ (4 * k) := by rw [Nat.pow_mul]
  have hn0 : n ≠ 0 := by omega
  have hd0 : n / 16 ^ k ≠ 0 := by
    have := Nat.div_pos h1 hp
    omega
  have hA : 2 ^ Nat.log2 (n / 16 ^ k) ≤ n / 16 ^ k := Nat.log2_self_le hd0
  have hB : n / 16 ^ k < 2 ^ (Nat.log2 (n / 16 ^ k) + 1) := Nat.lt_log2_self
  have hA' : 2 ^ (4 * k + Nat.log2 (n / 16 ^ k)) ≤ n := by
    rw [Nat.pow_add, ← e16]
    calc 16 ^ k * 2 ^ Nat.log2 (n / 16 ^ k) ≤ 16 ^ k * (n / 16 ^ k) := Nat.mul_le_mul_left _ hA
      _ ≤ n := Nat.mul_div_le _ _
  have hB' : n < 2 ^ (4 * k + Nat.log2 (n / 16 ^ k) + 1) := by
    rw [Nat.add_assoc, Nat.pow_add, ← e16, Nat.mul_comm]
    exact (Nat.div_lt_iff_lt_mul hp).mp hB
  exact (Nat.log2_eq_iff hn0).mpr ⟨hA', hB'⟩
/-- what Int2AP's word tells: its first letter and its length give the highest binary figure -/
theorem hex_top {n : Nat} (h : 0 < n) (hn : n < 16 ^ 16) : ∃ c r, hexW n = c :: r ∧ (c :: r).length ≤ 16 ∧ 65 ≤ (c.toNat : Int) ∧ (c.toNat : Int) ≤ 80 ∧ 4 * (((c :: r).length : Nat) : Int) - 5 + br4 (c.toNat : Int) = (Nat.log2 n : Nat) := by
  obtain ⟨k, hk, h1, h2⟩ := exists_hex h hn
  obtain ⟨r, hr, hl⟩ := hexW_head k n h1 h2
  have hp : 0 < 16 ^ k := Nat.pow_pos (by omega)
  have d0 : 1 ≤ n / 16 ^ k := Nat.div_pos h1 hp
  have d1 : n / 16 ^ k < 16 := by
    rw [Nat.div_lt_iff_lt_mul hp, Nat.mul_comm, ← Nat.pow_succ]; exact h2
  have hb := br4_log _ d0 d1
  have e : (UInt8.ofNat (65 + n / 16 ^ k)).toNat = 65 + n / 16 ^ k := by
    rw [UInt8.toNat_ofNat', Nat.mod_eq_of_lt (by omega)]
  refine ⟨_, r, hr, by simp [hl]; omega, by rw [e]; omega, by rw [e]; omega, ?_⟩
  rw [hb, log2_hex h1 h2, List.length_cons, hl]
  push_cast
  omega
end Mine
end

theorem Mine.calmW7 : True := by
  w_top off
  k_with_none
  k_with "k_ne" => (refine neN ?_; (try dsimp only); first | with_reducible assumption | with_reducible exact Ne.symm (by assumption))
  exact True.intro
section
open PySem PySem.W PyProof.Rows PySem.Calls PySem.Spec PyProof.V
namespace Mine
theorem ret_int0 {h₀ h' : Heap} {L : Addr} {m : Str → Option Value} {news : List (Addr × Obj)} {s : Shared} {Q : Value → Shared → Prop} {x y : Int} {t : Tok} {tk' : Nat}
    (hret : ∀ v h' tk', (∃ t, v = Value.int x t) → Fr h₀ L h' m → News h₀ L h' news → Q v { s with heap := h', toks := tk' }) (F : Fr h₀ L h' m) (N : News h₀ L h' news) (e : y = x) :
    Q (.int y t) { s with heap := h', toks := tk' } := hret _ _ _ ⟨t, by rw [e]⟩ F N
theorem br4_0 {x y : Int} (hy : y = 0) (h : x < 66) : y = br4 x := by unfold br4; omega
theorem br4_1 {x y : Int} (hy : y = 1) (h : ¬ x < 66) (h' : x < 67) : y = br4 x := by unfold br4; omega
theorem br4_2 {x y : Int} (hy : y = 2) (h : ¬ x < 67) (h' : x < 69) : y = br4 x := by unfold br4; omega
theorem br4_3 {x y : Int} (hy : y = 3) (h : ¬ x < 69) (h' : x < 73) : y = br4 x := by unfold br4; omega
theorem br4_4 {x y : Int} (hy : y = 4) (h : ¬ x < 73) : y = br4 x := by unfold br4; omega
theorem rulesW7_0 : True := by
  k_with "subscriptTail" => (k_here; (with_reducible show wpAny _ _ (subscriptTail _ _ (Value.bytes (List.toArray (_ :: _)) _) (Value.int 0 _)) _ _ _); (refine KBy.item_N (by assumption) (by decide) (by (simp only [List.length_cons]; omega)) ?_))
  k_with "cell_enter" => (refine' code_def ?k1 ?k2 ?k3 ?k4 ?k5 ?kA ?kF ?kK ?k6 ?k7 ?k8 ?k9 ?kB ?_ ?c2 ?c3 ?c4 ?c5; (case kA => exact rfl); (case kF => exact rfl); (case kK => assumption); (case k1 => k_asm); (case k2 => k_asm); (case k3 => k_asm); (case k4 => k_asm); (case k5 => k_asm); (case k6 => k_is); (case k7 => k_is); (case k8 => ktr_room); (case k9 => (refine' kp_binds ?kx ?ke; (case kx => k_in); (case ke => exact fun _ => rfl))); (case c5 => decide); (case kB => exact locs rfl); (case c2 => exact rfl); (case c3 => exact rfl); (case c4 => exact rfl); k_whole; intro g' L' h' FG' F' N' B' X' T'; (try dsimp only); (try k_lift B'); (try k_fold))
  exact True.intro
set_option maxRecDepth 100000 in
set_option maxHeartbeats 8000000 in
theorem br4_tells {w : World} {mean : ExcName → Option Value} {mg mb : Str → Option Value} (x : Int) (hx0 : 65 ≤ x) (hx1 : x ≤ 80) (tb tx : Tok) :
    Tells 2 w mean mg mb 86 [] [.bytes #[66, 67, 69, 73] tb, .int x tx] (fun v => ∃ t, v = .int (br4 x) t) := by
  unfold Tells TopH prg KK
  k_fill
  intro dp un gd cn cs ad ccd cls outer A₀ base h₀ L m news s Q E B F X N T hk hn hd hu hret
  refine wpAny_call ?_
  k_dflt cell_enter
  k_steps
  all_goals (refine ret_int0 hret ?_ ?_ ?_; assumption; assumption)
  all_goals first
    | exact br4_0 (by decide) (by assumption)
    | exact br4_1 (by decide) (by assumption) (by assumption)
    | exact br4_2 (by decide) (by assumption) (by assumption)
    | exact br4_3 (by decide) (by assumption) (by assumption)
    | exact br4_4 (by decide) (by assumption)
set_option maxRecDepth 100000 in
set_option maxHeartbeats 8000000 in
theorem getitem_tells {w : World} {mean : ExcName → Option Value} {mg mb : Str → Option Value} (c : UInt8) (r : List UInt8) (hr : (c :: r).length ≤ 1099511627776) (tb tx : Tok) :
    Tells 2 w mean mg mb 35 [] [.bytes (c :: r).toArray tb, .int 0 tx] (fun v => ∃ t, v = .int (c.toNat : Int) t) := by
  unfold Tells TopH prg KK
  k_fill
  intro dp un gd cn cs ad ccd cls outer A₀ base h₀ L m news s Q E B F X N T hk hn hd hu hret
  refine wpAny_call ?_
  k_dflt cell_enter
  k_steps
  all_goals (refine ret_int0 hret ?_ ?_ ?_; assumption; assumption; rfl)
end Mine
end

theorem Mine.calmP5 : True := by
  w_top off
  k_with_none
  k_with "k_ne" => (refine neN ?_; (try dsimp only); first | with_reducible assumption | with_reducible exact Ne.symm (by assumption))
  exact True.intro
section
open PySem
namespace Mine
theorem bitAnd_nat (a b : Nat) : Builtin.bitAnd (a : Int) (b : Int) = ((a &&& b : Nat) : Int) := by
  unfold Builtin.bitAnd
  rw [decide_eq_true (by omega : (0 : Int) ≤ a), decide_eq_true (by omega : (0 : Int) ≤ b)]
  simp
theorem bitNot_def (x : Int) : Builtin.bitNot x = -x - 1 := by unfold Builtin.bitNot; omega
theorem bitOr_nat (a b : Nat) : Builtin.bitOr (a : Int) (b : Int) = ((a ||| b : Nat) : Int) := by
  unfold Builtin.bitOr Builtin.bitAnd
  rw [decide_eq_false (by rw [bitNot_def]; omega : ¬ (0 : Int) ≤ Builtin.bitNot a), decide_eq_false (by rw [bitNot_def]; omega : ¬ (0 : Int) ≤ Builtin.bitNot b)]
  simp only [bitNot_def]
  rw [show -(-(a : Int) - 1) - 1 = a by omega, show -(-(b : Int) - 1) - 1 = b by omega, Int.toNat_natCast, Int.toNat_natCast]
  omega
theorem or_xor_and : ∀ (n a b : Nat), a < 2 ^ n → b < 2 ^ n → (a ||| b) = (a ^^^ b) + (a &&& b)
  | 0, a, b, ha, hb => by
    have h1 : a = 0 := by simpa using ha
    have h2 : b = 0 := by simpa using hb
    subst h1 h2; rfl
  | n + 1, a, b, ha, hb => by
    have h1 : a / 2 < 2 ^ n := by rw [Nat.pow_succ] at ha; omega
    have h2 : b / 2 < 2 ^ n := by rw [Nat.pow_succ] at hb; omega
    have ih := or_xor_and n (a / 2) (b / 2) h1 h2
    have e1 := Nat.or_div_two (a := a) (b := b)
    have e2 := Nat.xor_div_two (a := a) (b := b)
    have e3 := Nat.and_div_two (a := a) (b := b)
    have m1 := Nat.or_mod_two_eq_one (a := a) (b := b)
    have m2 := Nat.xor_mod_two_eq_one (a := a) (b := b)
    have m3 := Nat.and_mod_two_eq_one (a := a) (b := b)
    have key : (a ||| b) % 2 = (a ^^^ b) % 2 + (a &&& b) % 2 := by
      clear ih e1 e2 e3 h1 h2 ha hb
      rcases Nat.mod_two_eq_zero_or_one a with ha | ha <;> rcases Nat.mod_two_eq_zero_or_one b with hb | hb <;> rw [ha, hb] at m1 m2 m3 <;> simp only [Nat.zero_ne_one, or_self, and_self, iff_false, iff_true, not_true, or_true, true_or, and_false, false_and, not_false_eq_true, Nat.mod_two_ne_one] at m1 m2 m3 <;> rw [m1, m2, m3]
    rw [← Nat.div_add_mod (a ||| b) 2, ← Nat.div_add_mod (a ^^^ b) 2, ← Nat.div_add_mod (a &&& b) 2, key, e1, e2, e3, ih]
    clear m1 m2 m3 key ih e1 e2 e3
    omega
theorem bitXor_nat (a b : Nat) : Builtin.bitXor (a : Int) (b : Int) = ((a ^^^ b : Nat) : Int) := by
  unfold Builtin.bitXor
  rw [bitOr_nat, bitAnd_nat, or_xor_and (a + b) a b]
  · omega
  · exact Nat.lt_of_le_of_lt (Nat.le_add_right a b) Nat.lt_two_pow_self
  · exact Nat.lt_of_le_of_lt (Nat.le_add_left b a) Nat.lt_two_pow_self
theorem fdiv_nat (a k : Nat) : Int.fdiv (a : Int) (2 ^ k) = ((a / 2 ^ k : Nat) : Int) := by
  have hp : (0 : Int) ≤ 2 ^ k := Int.le_of_lt (Int.pow_pos (by omega))
  rw [Int.fdiv_eq_ediv_of_nonneg _ hp]
  push_cast
  rfl
theorem or_two (a b : Nat) (hb : b < 2) : (a * 2 ||| b) = 2 * a + b := by
  have := Nat.two_pow_add_eq_or_of_lt (i := 1) (b := b) hb a
  rw [Nat.pow_one] at this
  rw [Nat.mul_comm, ← this]
/-- the sketch: the figures at the places, the first place's the lowest -/
def skN (x : Nat) : List Nat → Nat
  | [] => 0
  | p :: r => 2 * skN x r + x / 2 ^ p % 2
theorem skN_lt (x : Nat) : ∀ ps : List Nat, skN x ps < 2 ^ ps.length
  | [] => by simp [skN]
  | p :: r => by
    have := skN_lt x r
    rw [skN, List.length_cons, Nat.pow_succ]
    omega
abbrev zs (ps : List Nat) : List Int := ps.map (fun p : Nat => (p : Int))
theorem sk_place {ps : List Nat} {pre post : List Int} {n : Int} (hp : ∀ p ∈ ps, p < 64) (he : (zs ps).reverse = pre ++ n :: post) : 0 ≤ n ∧ n ≤ 64 := by
  have : n ∈ (zs ps).reverse := by rw [he]; simp
  rw [List.mem_reverse] at this
  obtain ⟨p, h, rfl⟩ := List.mem_map.mp this
  have := hp p h
  omega
abbrev SkInv (x : Nat) (pre : List Int) (told : Int) : Prop := 0 ≤ told ∧ told < 18446744073709551616 ∧ told = ((skN x (pre.reverse.map Int.toNat) : Nat) : Int)
theorem sk_start (x : Nat) : SkInv x [] 0 := ⟨by omega, by omega, rfl⟩
theorem sk_turn {x : Nat} {ps : List Nat} {pre post : List Int} {n told : Int} (hlen : ps.length ≤ 7) (hp : ∀ p ∈ ps, p < 64) (he : (zs ps).reverse = pre ++ n :: post) (h : told = ((skN x (pre.reverse.map Int.toNat) : Nat) : Int)) :
    SkInv x (pre ++ [n]) (Builtin.bitOr (told * 2 ^ Int.toNat 1) (Builtin.bitAnd (Int.fdiv (x : Int) (2 ^ n.toNat)) 1)) := by
  have hn := sk_place hp he
  have e1 : told * 2 ^ Int.toNat 1 = ((skN x (pre.reverse.map Int.toNat) * 2 : Nat) : Int) := by rw [h]; push_cast; rfl
  have e2 : Builtin.bitAnd (Int.fdiv (x : Int) (2 ^ n.toNat)) 1 = ((x / 2 ^ n.toNat % 2 : Nat) : Int) := by
    rw [fdiv_nat, show (1 : Int) = ((1 : Nat) : Int) from rfl, bitAnd_nat, Nat.and_one_is_mod]
  have e3 : skN x ((pre ++ [n]).reverse.map Int.toNat) = 2 * skN x (pre.reverse.map Int.toNat) + x / 2 ^ n.toNat % 2 := by
    rw [List.reverse_append, List.reverse_singleton, List.singleton_append, List.map_cons, skN]
  have hl : (pre ++ [n]).length ≤ 7 := by
    have := congrArg List.length he
    simp at this
    simp; omega
  have hlt := skN_lt x ((pre ++ [n]).reverse.map Int.toNat)
  rw [List.length_map, List.length_reverse] at hlt
  have h128 : 2 ^ (pre ++ [n]).length ≤ 2 ^ 7 := Nat.pow_le_pow_right (by omega) hl
  rw [e1, e2, bitOr_nat, or_two _ _ (by omega), ← e3]
  refine ⟨by omega, by omega, rfl⟩
theorem sk_end {x : Nat} {ps : List Nat} {told : Int} (h : told = ((skN x ((zs ps).reverse.reverse.map Int.toNat) : Nat) : Int)) : told = ((skN x ps : Nat) : Int) := by
  rw [h, List.reverse_reverse, List.map_map]
  congr 2
  exact List.map_id'' (fun _ => rfl) _
end Mine
end

theorem Mine.calmW8 : True := by
  w_top off
  k_with_none
  k_with "k_ne" => (refine neN ?_; (try dsimp only); first | with_reducible assumption | with_reducible exact Ne.symm (by assumption))
  exact True.intro
section
open PySem PySem.W PyProof.Rows PySem.Calls PySem.Spec PyProof.V
namespace Mine
theorem Int2AP_cons {w : World} {mean : ExcName → Option Value} {mg mb : Str → Option Value} {n : Nat} {c : UInt8} {r : List UInt8} (hn0 : n < 16 ^ 16) (hw : hexW n = c :: r) (tx : Tok) :
    Tells 1 w mean mg mb 111 [] [.int (n : Int) tx] (fun v => ∃ t, v = .bytes (c :: r).toArray t) := hw ▸ Int2AP_tells n hn0 tx
theorem len_ok {c : UInt8} {r : List UInt8} (h : (c :: r).length ≤ 16) : (c :: r).length ≤ 1099511627776 := by omega
theorem bytes_len {prog : Program} {w : World} {A : Around} {E : Value → Shared → Prop} {s : Shared} {x : List UInt8} {t : Tok} {Q : Value → Shared → Prop} (hfit : x.length ≤ 16)
    (h : ∀ u k, Q (.int (x.length : Int) u) { s with toks := k }) : wpAny (model prog w) A (call (.builtin "len") [.bytes x.toArray t]) Q E s := by
  refine KBw.len_K rfl (by rw [KBw.ints_length]; simp; omega) ?_
  rw [KBw.ints_length, List.size_toArray]
  exact h _ _
theorem rulesW8_0 : True := by
  k_with "call builtin:len" => (k_here; (with_reducible show wpAny _ _ (call (Value.builtin "len") [Value.bytes (List.toArray _) _]) _ _ _); (refine bytes_len (by assumption) ?_); intro u' k')
  k_with "call ref" => (k_here; (with_reducible show wpAny _ _ (call (Value.ref 111) _) _ _ _); k_dflt (refine' Tells.use ?k1 ?k2 ?k3 ?k4 ?k5 ?kK (Int2AP_cons (by assumption) (by assumption) _) ?kn ?kd ?ku ?_); (case k1 => k_asm); (case k2 => k_asm); (case k3 => k_asm); (case k4 => k_asm); (case k5 => k_asm); (case kK => exact rfl); (case kn => exact need0); (case kd => ktr_room); (case ku => ktr_units); intro v' h' tk' hR F' N'; obtain ⟨t', hE'⟩ := hR; subst hE'; (try dsimp only))
  k_with "call ref" => (k_here; (with_reducible show wpAny _ _ (call (Value.ref 35) _) _ _ _); k_dflt (refine' Tells.use ?k1 ?k2 ?k3 ?k4 ?k5 ?kK (getitem_tells _ _ ?hl _ _) ?kn ?kd ?ku ?_); (case hl => exact len_ok (by assumption)); (case k1 => k_asm); (case k2 => k_asm); (case k3 => k_asm); (case k4 => k_asm); (case k5 => k_asm); (case kK => exact rfl); (case kn => exact need0); (case kd => ktr_room); (case ku => ktr_units); intro v' h' tk' hR F' N'; obtain ⟨t', hE'⟩ := hR; subst hE'; (try dsimp only))
  k_with "call ref" => (k_here; (with_reducible show wpAny _ _ (call (Value.ref 86) [Value.bytes _ _, _]) _ _ _); k_dflt (refine' Tells.use ?k1 ?k2 ?k3 ?k4 ?k5 ?kK (br4_tells _ (by assumption) (by assumption) _ _) ?kn ?kd ?ku ?_); (case k1 => k_asm); (case k2 => k_asm); (case k3 => k_asm); (case k4 => k_asm); (case k5 => k_asm); (case kK => exact rfl); (case kn => exact need0); (case kd => ktr_room); (case ku => ktr_units); intro v' h' tk' hR F' N'; obtain ⟨t', hE'⟩ := hR; subst hE'; (try dsimp only))
  exact True.intro
set_option maxRecDepth 100000 in
set_option maxHeartbeats 8000000 in
theorem law_top_tells {w : World} {mean : ExcName → Option Value} {mg mb : Str → Option Value} (n : Nat) (h0 : 0 < n) (hn0 : n < 16 ^ 16) (tx : Tok) :
    Tells 3 w mean mg mb 118 [] [.int (n : Int) tx] (fun v => ∃ t, v = .int ((Nat.log2 n : Nat) : Int) t) := by
  obtain ⟨c, r, hw, hl, hc0, hc1, htop⟩ := hex_top h0 hn0
  unfold Tells TopH prg KK
  k_fill
  intro dp un gd cn cs ad ccd cls outer A₀ base h₀ L m news s Q E B F X N T hk hn hd hu hret
  refine wpAny_call ?_
  k_dflt cell_enter
  k_steps
  all_goals (refine ret_int0 hret ?_ ?_ ?_; assumption; assumption; exact htop)
end Mine
end

theorem Mine.calmW9 : True := by
  w_top off
  k_with_none
  k_with "k_ne" => (refine neN ?_; (try dsimp only); first | with_reducible assumption | with_reducible exact Ne.symm (by assumption))
  exact True.intro
section
open PySem PySem.W PyProof.Rows PySem.Calls PySem.Spec PyProof.V
namespace Mine
theorem rulesW9_0 : True := by
  k_with "call ref" => (k_here; (with_reducible show wpAny _ _ (call (Value.ref 49) _) _ _ _); k_dflt (refine' Tells.use ?k1 ?k2 ?k3 ?k4 ?k5 ?kK (ilshift_tells _ _ _ _ ?b0 ?b1 ?a0 ?a1) ?kn ?kd ?ku ?_); (case b0 => first | assumption | decide); (case b1 => first | assumption | decide); (case a0 => first | assumption | decide); (case a1 => first | assumption | decide); (case k1 => k_asm); (case k2 => k_asm); (case k3 => k_asm); (case k4 => k_asm); (case k5 => k_asm); (case kK => exact rfl); (case kn => exact need0); (case kd => ktr_room); (case ku => ktr_units); intro v' h' tk' hR F' N'; obtain ⟨t', hE'⟩ := hR; subst hE'; (try dsimp only))
  k_with "call ref" => (k_here; (with_reducible show wpAny _ _ (call (Value.ref 70) _) _ _ _); k_dflt (refine' Tells.use ?k1 ?k2 ?k3 ?k4 ?k5 ?kK (irshift_tells _ _ _ _ ?b0 ?b1) ?kn ?kd ?ku ?_); (case b0 => first | assumption | exact (sk_place (by assumption) (by assumption)).1); (case b1 => first | assumption | exact (sk_place (by assumption) (by assumption)).2); (case k1 => k_asm); (case k2 => k_asm); (case k3 => k_asm); (case k4 => k_asm); (case k5 => k_asm); (case kK => exact rfl); (case kn => exact need0); (case kd => ktr_room); (case ku => ktr_units); intro v' h' tk' hR F' N'; obtain ⟨t', hE'⟩ := hR; subst hE'; (try dsimp only))
  k_with "call ref" => (k_here; (with_reducible show wpAny _ _ (call (Value.ref 42) _) _ _ _); k_dflt (refine' Tells.use ?k1 ?k2 ?k3 ?k4 ?k5 ?kK (iand_tells _ _ _ _) ?kn ?kd ?ku ?_); (case k1 => k_asm); (case k2 => k_asm); (case k3 => k_asm); (case k4 => k_asm); (case k5 => k_asm); (case kK => exact rfl); (case kn => exact need0); (case kd => ktr_room); (case ku => ktr_units); intro v' h' tk' hR F' N'; obtain ⟨t', hE'⟩ := hR; subst hE'; (try dsimp only))
  k_with "call ref" => (k_here; (with_reducible show wpAny _ _ (call (Value.ref 63) _) _ _ _); k_dflt (refine' Tells.use ?k1 ?k2 ?k3 ?k4 ?k5 ?kK (ior_tells _ _ _ _) ?kn ?kd ?ku ?_); (case k1 => k_asm); (case k2 => k_asm); (case k3 => k_asm); (case k4 => k_asm); (case k5 => k_asm); (case kK => exact rfl); (case kn => exact need0); (case kd => ktr_room); (case ku => ktr_units); intro v' h' tk' hR F' N'; obtain ⟨t', hE'⟩ := hR; subst hE'; (try dsimp only))
  exact True.intro
set_option maxRecDepth 100000 in
set_option maxHeartbeats 8000000 in
theorem law_sketch_tells {w : World} {mean : ExcName → Option Value} {mg mb : Str → Option Value} (l : Addr) (vs : List Value) (ps : List Nat) (c : Nat) (hi : IntsAre vs (zs ps)) (hlen : ps.length ≤ 7) (hps : ∀ p ∈ ps, p < 64) (x : Nat) (tx : Tok) :
    Tells 3 w mean mg mb 125 [(l, listOf vs.toArray c)] [.int (x : Int) tx, .ref l] (fun v => ∃ t, v = .int ((skN x ps : Nat) : Int) t) := by
  unfold Tells TopH prg KK
  k_fill
  intro dp un gd cn cs ad ccd cls outer A₀ base h₀ L m news s Q E B F X N0 T hk hn hd hu hret
  have N := news_dup N0 (hn _ (.head _))
  clear N0
  k_with "pyIter ref" => k_state (fun pre told => 0 ≤ told ∧ told < 18446744073709551616 ∧ told = ((skN x (pre.reverse.map Int.toNat) : Nat) : Int)) "told"
  k_with "state" => first | exact sk_start x | exact sk_turn hlen hps (by assumption) (by assumption)
  refine wpAny_call ?_
  k_dflt cell_enter
  k_steps
  all_goals (refine' ret_int hret ?e ?F ?N ?S; (case F => assumption); (case N => assumption); (case S => intro p hp; repeat (first | exact hp | refine List.mem_cons_of_mem _ ?_)); (case e => exact sk_end (by assumption)))
end Mine
end

theorem Mine.calmP6 : True := by
  w_top off
  k_with_none
  k_with "k_ne" => (refine neN ?_; (try dsimp only); first | with_reducible assumption | with_reducible exact Ne.symm (by assumption))
  exact True.intro
section
namespace Mine
/-- what Int2AP writes for the mask: IA for each field that is set, AA for each one below -/
def iaW (a : Nat) : List UInt8 := (List.replicate a [73, 65]).flatten
def aaW (b : Nat) : List UInt8 := (List.replicate b [65, 65]).flatten
theorem iaW_length (a : Nat) : (iaW a).length = 2 * a := by unfold iaW; simp; omega
theorem aaW_length (a : Nat) : (aaW a).length = 2 * a := by unfold aaW; simp; omega
def maskW (a b : Nat) : List UInt8 := if 0 < a then iaW a ++ aaW b else []
theorem maskW_zero (b : Nat) : maskW 0 b = [] := by unfold maskW; simp
theorem maskW_pos {a b : Nat} (h : 0 < a) : maskW a b = iaW a ++ aaW b := by unfold maskW; simp [h]
theorem iaW_succ (a : Nat) : iaW (a + 1) = iaW a ++ [73, 65] := by
  unfold iaW
  rw [List.replicate_succ', List.flatten_append]
  simp
theorem aaW_succ (a : Nat) : aaW (a + 1) = aaW a ++ [65, 65] := by
  unfold aaW
  rw [List.replicate_succ', List.flatten_append]
  simp
theorem iaW_count : ∀ a : Nat, ((iaW a).map fun c => (c.toNat : Int)).countP (fun i => decide (i = 73)) = a
  | 0 => rfl
  | a + 1 => by
    rw [iaW_succ, List.map_append, List.countP_append, iaW_count a]
    rfl
theorem aaW_count : ∀ a : Nat, ((aaW a).map fun c => (c.toNat : Int)).countP (fun i => decide (i = 73)) = 0
  | 0 => rfl
  | a + 1 => by
    rw [aaW_succ, List.map_append, List.countP_append, aaW_count a]
    rfl
theorem mask_count (a b : Nat) : ((maskW a b).map fun c => (c.toNat : Int)).countP (fun i => decide (i = 73)) = a := by
  rcases Nat.eq_zero_or_pos a with h | h
  · subst h; rw [maskW_zero]; rfl
  · rw [maskW_pos h, List.map_append, List.countP_append, iaW_count, aaW_count]
    omega
/-- one more field below -/
theorem hexW_low (m : Nat) : hexW (256 * m + 128) = hexW m ++ [73, 65] := by
  rw [hexW_pos (by omega), hexW_pos (n := (256 * m + 128) / 16) (by omega)]
  have e1 : (256 * m + 128) / 16 / 16 = m := by omega
  have e2 : (256 * m + 128) / 16 % 16 = 8 := by omega
  have e3 : (256 * m + 128) % 16 = 0 := by omega
  rw [e1, e2, e3, List.append_assoc]
  rfl
theorem hexW_low0 {m : Nat} (h : m ≠ 0) : hexW (256 * m) = hexW m ++ [65, 65] := by
  rw [hexW_pos (by omega), hexW_pos (n := (256 * m) / 16) (by omega)]
  have e1 : (256 * m) / 16 / 16 = m := by omega
  have e2 : (256 * m) / 16 % 16 = 0 := by omega
  have e3 : (256 * m) % 16 = 0 := by omega
  rw [e1, e2, e3, List.append_assoc]
  rfl
/-- the fields whose sketch is not less than q, 128 for each -/
def maskN (q : Nat) : List Nat → Nat
  | [] => 0
  | s :: r => 256 * maskN q r + (if q ≤ s then 128 else 0)
theorem maskN_word (q : Nat) : ∀ ss : List Nat, ss.Pairwise (· ≤ ·) → hexW (maskN q ss) = maskW (ss.countP (fun s => decide (q ≤ s))) (ss.countP (fun s => decide (s < q))) ∧ (maskN q ss = 0 ↔ ss.countP (fun s => decide (q ≤ s)) = 0)
  | [], _ => by simp [maskN, hexW_zero, maskW_zero]
  | s :: r, h => by
    obtain ⟨h1, h2⟩ := List.pairwise_cons.mp h
    obtain ⟨ih, ih0⟩ := maskN_word q r h2
    by_cases hq : q ≤ s
    · have hb : r.countP (fun s => decide (s < q)) = 0 := List.countP_eq_zero.mpr fun x hx => by
        have := h1 x hx
        simp; omega
      have hlt : ¬ s < q := by omega
      rw [maskN, if_pos hq, hexW_low, ih, List.countP_cons, List.countP_cons, hb]
      simp only [hq, hlt, decide_true, decide_false, if_true, Bool.false_eq_true, if_false]
      refine ⟨?_, by omega⟩
      rw [maskW_pos (Nat.succ_pos _), iaW_succ]
      rcases Nat.eq_zero_or_pos (r.countP (fun s => decide (q ≤ s))) with h0 | h0
      · rw [h0, maskW_zero]; rfl
      · rw [maskW_pos h0]; simp [aaW]
    · have hlt : s < q := by omega
      rw [maskN, if_neg hq, Nat.add_zero, List.countP_cons, List.countP_cons]
      simp only [hq, hlt, decide_true, decide_false, if_true, Bool.false_eq_true, if_false, Nat.add_zero]
      refine ⟨?_, by omega⟩
      rcases Nat.eq_zero_or_pos (r.countP (fun s => decide (q ≤ s))) with h0 | h0
      · have e := ih0.mpr h0
        rw [e, h0, Nat.mul_zero, hexW_zero, maskW_zero]
      · have hm : maskN q r ≠ 0 := fun e => by have := ih0.mp e; omega
        rw [hexW_low0 hm, ih, maskW_pos h0, maskW_pos h0, aaW_succ, List.append_assoc]
theorem maskN_lt (q : Nat) : ∀ ss : List Nat, maskN q ss < 256 ^ ss.length
  | [] => by simp [maskN]
  | s :: r => by
    have := maskN_lt q r
    rw [maskN, List.length_cons, Nat.pow_succ]
    split <;> omega
end Mine
end

theorem Mine.calmW10 : True := by
  w_top off
  k_with_none
  k_with "k_ne" => (refine neN ?_; (try dsimp only); first | with_reducible assumption | with_reducible exact Ne.symm (by assumption))
  exact True.intro
section
open PySem PySem.W PyProof.Rows PySem.Calls PySem.Spec PyProof.V
namespace Mine
theorem Tells.useT {D : Nat} {w : World} {mean : ExcName → Option Value} {mg mb : Str → Option Value} {f : Addr} {need : List (Addr × Obj)} {vs : List Value} {R : Value → Prop}
    {dp un : Nat} {gd : Option (List Code)} {cn : Str} {cs : Scope} {a : Addr} {ccd : Value} {cl : List (Str × Addr)} {outer : List Env} {A₀ : Around} {base h₀ : Heap} {L : Addr} {m : Str → Option Value} {news : List (Addr × Obj)} {s : Shared} {Q E : Value → Shared → Prop}
    (B : Below A₀ base outer h₀) (F : Fr h₀ L s.heap m) (X : (KK w).In h₀) (N : News h₀ L s.heap news) (T : TopH mean mg mb h₀) (hk : cs.kind = .function)
    (H : Tells D w mean mg mb f need vs R) (hn : ∀ p ∈ need, p ∈ news) (hd : dp + D < recursionLimit) (hu : un + 8 * D < cLine)
    (ret : ∀ v h' tk', R v → Fr h₀ L h' m → News h₀ L h' news → s.toks ≤ tk' → Q v { s with heap := h', toks := tk' }) :
    wpAny (model prg w) (ktrTop dp un gd cn cs L a ccd cl outer) (call (.ref f) vs) Q E s :=
  toks_cut (H _ _ _ _ _ _ _ _ _ _ _ _ _ _ _ _ _ _ B F X N T hk hn hd hu (fun v h' tk' hR F' N' ht => ret v h' tk' hR F' N' ht))
theorem gen_succ {α : Type} {M : Model} {A : Around} {t : Sem α} {Q : α → Shared → Prop} {E : Value → Shared → Prop} {h : Heap} {g : Array GenState} {d : Drawn} {n : Nat} {o : OsState}
    (H : ∀ k : Nat, 0 < k → wpAny M A t Q E ⟨h, g, d, k, o⟩) : wpAny M A t Q E ⟨h, g, d, n + 1, o⟩ := H _ (Nat.succ_pos n)
theorem Int2AP_word {w : World} {mean : ExcName → Option Value} {mg mb : Str → Option Value} {n : Nat} {z : Int} {x : List UInt8} (hz : z = (n : Int)) (hn0 : n < 16 ^ 16) (hw : hexW n = x) (tx : Tok) :
    Tells 1 w mean mg mb 111 [] [.int z tx] (fun v => ∃ t, v = .bytes x.toArray t) := by
  subst hz
  exact hw ▸ Int2AP_tells n hn0 tx
theorem rulesW10_0 : True := by
  k_with "call ref" => (k_here; (with_reducible show wpAny _ _ (call (Value.ref 56) _) _ _ _); k_dflt (refine' Tells.useT ?k1 ?k2 ?k3 ?k4 ?k5 ?kK (imul_tells _ _ _ _ ?a0 ?a1 ?b0 ?b1) ?kn ?kd ?ku ?_); (case a0 => first | assumption | decide); (case a1 => first | assumption | decide); (case b0 => first | assumption | decide); (case b1 => first | assumption | decide); (case k1 => k_asm); (case k2 => k_asm); (case k3 => k_asm); (case k4 => k_asm); (case k5 => k_asm); (case kK => exact rfl); (case kn => exact need0); (case kd => ktr_room); (case ku => ktr_units); intro v' h' tk' hR F' N' tkLe; obtain ⟨t', hE'⟩ := hR; subst hE'; (try dsimp only at tkLe); (try dsimp only))
  k_with "call ref" => (k_here; (with_reducible show wpAny _ _ (call (Value.ref 42) _) _ _ _); k_dflt (refine' Tells.useT ?k1 ?k2 ?k3 ?k4 ?k5 ?kK (iand_tells _ _ _ _) ?kn ?kd ?ku ?_); (case k1 => k_asm); (case k2 => k_asm); (case k3 => k_asm); (case k4 => k_asm); (case k5 => k_asm); (case kK => exact rfl); (case kn => exact need0); (case kd => ktr_room); (case ku => ktr_units); intro v' h' tk' hR F' N' tkLe; obtain ⟨t', hE'⟩ := hR; subst hE'; (try dsimp only at tkLe); (try dsimp only))
  k_with "call ref" => (k_here; (with_reducible show wpAny _ _ (call (Value.ref 77) _) _ _ _); k_dflt (refine' Tells.useT ?k1 ?k2 ?k3 ?k4 ?k5 ?kK (isub_tells _ _ _ _) ?kn ?kd ?ku ?_); (case k1 => k_asm); (case k2 => k_asm); (case k3 => k_asm); (case k4 => k_asm); (case k5 => k_asm); (case kK => exact rfl); (case kn => exact need0); (case kd => ktr_room); (case ku => ktr_units); intro v' h' tk' hR F' N' tkLe; obtain ⟨t', hE'⟩ := hR; subst hE'; (try dsimp only at tkLe); (try dsimp only))
  k_with "call ref" => (k_here; (with_reducible show wpAny _ _ (call (Value.ref 111) _) _ _ _); k_dflt (refine' Tells.useT ?k1 ?k2 ?k3 ?k4 ?k5 ?kK (Int2AP_word (by assumption) (by assumption) (by assumption) _) ?kn ?kd ?ku ?_); (case k1 => k_asm); (case k2 => k_asm); (case k3 => k_asm); (case k4 => k_asm); (case k5 => k_asm); (case kK => exact rfl); (case kn => exact need0); (case kd => ktr_room); (case ku => ktr_units); intro v' h' tk' hR F' N' tkLe; obtain ⟨t', hE'⟩ := hR; subst hE'; (try dsimp only at tkLe); (try dsimp only))
  k_with "execs cons" => (k_here; (with_reducible refine gen_succ ?_); intro k' hk')
  exact True.intro
theorem countOf_is {w : World} {mean : ExcName → Option Value} {mg mb : Str → Option Value} {x : List UInt8} {z : Int} (hz : ((x.map fun c => (c.toNat : Int)).countP (fun i => decide (i = 73)) : Nat) = z) (tb : Tok) (tk0 : Tok) (hk1 : 0 < tk0)
   {dp un : Nat} {gd : Option (List Code)} {cn : Str} {cs : Scope} {ad : Addr} {ccd : Value} {cls : List (Str × Addr)} {outer : List Env} {A₀ : Around} {base h₀ : Heap} {L : Addr} {m : Str → Option Value} {news : List (Addr × Obj)} {s : Shared} {Q E : Value → Shared → Prop}
    (B : Below A₀ base outer h₀) (F : Fr h₀ L s.heap m) (X : (KK w).In h₀) (N : News h₀ L s.heap news) (T : TopH mean mg mb h₀) (hk : cs.kind = .function)
    (hd : dp + 1 < recursionLimit) (hu : un + 8 < cLine) (hk2 : tk0 < s.toks)
    (hret : ∀ v h' tk', (∃ t, v = Value.int z t) → Fr h₀ L h' m → News h₀ L h' news → Q v { s with heap := h', toks := tk' }) :
    wpAny (model prg w) (ktrTop dp un gd cn cs L ad ccd cls outer) (call (.ref 28) [.bytes x.toArray tb, .int 73 tk0]) Q E s := by
  subst hz
  exact countOf_tells x.toArray tb 73 tk0 hk1 B F X N T hk hd hu hk2 hret
theorem bne_never {x : List UInt8} (h : (x != x) = true) : False := by simp at h
theorem bytes_mul_n {prog : Program} {w : World} {A : Around} {E : Value → Shared → Prop} {s : Shared} {b : List UInt8} {z : Int} {n : Nat} {t u : Tok} {Q : Value → Shared → Prop} (hz : z = (n : Int)) (hb : b ≠ []) (hn : n ≤ 7) (hs : b.length ≤ 16)
    (h : ∀ t' k, Q (.bytes ((List.replicate n b).flatten).toArray t') { s with toks := k }) : wpAny (model prog w) A (binaryOp .Mult (.bytes b.toArray t) (.int z u)) Q E s := by
  subst hz
  exact bytes_mul_any hb (by omega) (by omega) hs h
theorem bytes_addW {prog : Program} {w : World} {A : Around} {E : Value → Shared → Prop} {s : Shared} {a b c : Nat} {t u : Tok} {Q : Value → Shared → Prop} (h7 : a + b ≤ 7) (hc : c = b)
    (h : ∀ t' k, Q (.bytes (iaW a ++ aaW b).toArray t') { s with toks := k }) : wpAny (model prog w) A (binaryOp .Add (.bytes (List.replicate a [(73 : UInt8), 65]).flatten.toArray t) (.bytes (List.replicate c [(65 : UInt8), 65]).flatten.toArray u)) Q E s := by
  subst hc
  refine KBy.add_bytes (by simp; omega) fun t' k => ?_
  rw [List.append_toArray]
  exact h t' k
theorem rulesW10_1 : True := by
  k_with "call ref" => (k_here; (with_reducible show wpAny _ _ (call (Value.ref 28) _) _ _ _); k_dflt (refine' countOf_is (by assumption) _ _ ?p0 ?k1 ?k2 ?k3 ?k4 ?k5 ?kK ?kd ?ku ?p1 ?_); (case p0 => assumption); (case p1 => exact Nat.lt_succ_self _); (case k1 => k_asm); (case k2 => k_asm); (case k3 => k_asm); (case k4 => k_asm); (case k5 => k_asm); (case kK => exact rfl); (case kd => ktr_room); (case ku => ktr_units); intro v' h' tk' hR F' N'; obtain ⟨t', hE'⟩ := hR; subst hE'; (try dsimp only))
  k_with "binaryOp Mult bytes int" => (k_here; (with_reducible show wpAny _ _ (binaryOp Operator.Mult (Value.bytes (List.toArray _) _) (Value.int _ _)) _ _ _); k_dflt (first | refine bytes_mul_n rfl (List.cons_ne_nil _ _) (by assumption) (by decide) ?_ | refine bytes_mul_n (by omega) (List.cons_ne_nil _ _) (by assumption) (by decide) ?_); intro t' k')
  k_with "binaryOp Add bytes bytes" => (k_here; (with_reducible show wpAny _ _ (binaryOp Operator.Add (Value.bytes (List.toArray _) _) (Value.bytes (List.toArray _) _)) _ _ _); k_dflt (refine bytes_addW (by assumption) (by omega) ?_); intro t' k')
  exact True.intro
set_option maxRecDepth 100000 in
set_option maxHeartbeats 8000000 in
theorem law_below_pos {w : World} {mean : ExcName → Option Value} {mg mb : Str → Option Value} {packed ones sketch : Int} {n a b : Nat} (ho0 : 0 ≤ ones) (ho1 : ones < 18446744073709551616) (hs0 : 0 ≤ sketch) (hs1 : sketch < 1024)
    (hz : Builtin.bitAnd (packed - ones * sketch) (ones * 128) = (n : Int)) (hn0 : n < 16 ^ 16) (hw : hexW n = iaW a ++ aaW b) (hc : (((iaW a ++ aaW b).map fun c => (c.toNat : Int)).countP (fun i => decide (i = 73)) : Nat) = (a : Int)) (ha : 0 < (a : Int)) (hab : a + b ≤ 7) (ha7 : a ≤ 7) (hb7 : b ≤ 7) (tp to ts tk : Tok) :
    Tells 3 w mean mg mb 132 [] [.int packed tp, .int ones to, .int ((a : Int) + (b : Int)) ts, .int sketch tk] (fun v => ∃ t, v = .int (b : Int) t) := by
  unfold Tells TopH prg KK
  k_fill
  intro dp un gd cn cs ad ccd cls outer A₀ base h₀ L m news s Q E B F X N T hk hn hd hu hret
  refine wpAny_call ?_
  k_dflt cell_enter
  k_steps
  all_goals first
    | (refine ret_int0 hret ?_ ?_ ?_; assumption; assumption; omega)
    | exact (bne_never (by assumption)).elim
set_option maxRecDepth 100000 in
set_option maxHeartbeats 8000000 in
theorem law_below_0 {w : World} {mean : ExcName → Option Value} {mg mb : Str → Option Value} {packed ones sketch : Int} {n b : Nat} (ho0 : 0 ≤ ones) (ho1 : ones < 18446744073709551616) (hs0 : 0 ≤ sketch) (hs1 : sketch < 1024)
    (hz : Builtin.bitAnd (packed - ones * sketch) (ones * 128) = (n : Int)) (hn0 : n < 16 ^ 16) (hw : hexW n = []) (hc : ((([] : List UInt8).map fun c => (c.toNat : Int)).countP (fun i => decide (i = 73)) : Nat) = (0 : Int)) (tp to ts tk : Tok) :
    Tells 3 w mean mg mb 132 [] [.int packed tp, .int ones to, .int (b : Int) ts, .int sketch tk] (fun v => ∃ t, v = .int (b : Int) t) := by
  unfold Tells TopH prg KK
  k_fill
  intro dp un gd cn cs ad ccd cls outer A₀ base h₀ L m news s Q E B F X N T hk hn hd hu hret
  refine wpAny_call ?_
  k_dflt cell_enter
  k_steps
  all_goals first
    | (refine ret_int0 hret ?_ ?_ ?_; assumption; assumption; omega)
    | exact (bne_never (by assumption)).elim
/-- what a subtraction on the packed number tells: how many fields are below -/
theorem law_below_tells {w : World} {mean : ExcName → Option Value} {mg mb : Str → Option Value} {packed ones sketch : Int} {n a b : Nat} (ho0 : 0 ≤ ones) (ho1 : ones < 18446744073709551616) (hs0 : 0 ≤ sketch) (hs1 : sketch < 1024)
    (hz : Builtin.bitAnd (packed - ones * sketch) (ones * 128) = (n : Int)) (hn0 : n < 16 ^ 16) (hw : hexW n = maskW a b) (hab : a + b ≤ 7) {z : Int} (hsz : z = (a : Int) + (b : Int)) (tp to ts tk : Tok) :
    Tells 3 w mean mg mb 132 [] [.int packed tp, .int ones to, .int z ts, .int sketch tk] (fun v => ∃ t, v = .int (b : Int) t) := by
  have hc := congrArg (fun k : Nat => (k : Int)) (mask_count a b)
  rw [← hw] at hc
  subst hsz
  rcases Nat.eq_zero_or_pos a with h | h
  · subst h
    rw [maskW_zero] at hw
    rw [hw] at hc
    have e : ((0 : Nat) : Int) + (b : Int) = (b : Int) := by omega
    rw [e]
    exact law_below_0 ho0 ho1 hs0 hs1 hz hn0 hw hc tp to ts tk
  · rw [maskW_pos h] at hw
    rw [hw] at hc
    exact law_below_pos ho0 ho1 hs0 hs1 hz hn0 hw hc (by omega) hab (by omega) (by omega) tp to ts tk
end Mine
end

theorem Mine.calmP8 : True := by
  w_top off
  k_with_none
  k_with "k_ne" => (refine neN ?_; (try dsimp only); first | with_reducible assumption | with_reducible exact Ne.symm (by assumption))
  exact True.intro
section
open PySem
namespace Mine
/-- the keys on either side of the place r -/
def nearKs (ks : List Nat) (r : Nat) : List Nat := (ks.take (r + 1)).drop (r - 1)
theorem near_eq (ks : List Nat) (r : Nat) : List.take (min (Int.toNat ((r : Int) + 1)) (List.length (zs ks)) - Int.toNat (if 0 > (r : Int) - 1 then 0 else (r : Int) - 1)) (List.drop (Int.toNat (if 0 > (r : Int) - 1 then 0 else (r : Int) - 1)) (zs ks)) = zs (nearKs ks r) := by
  have e1 : Int.toNat ((r : Int) + 1) = r + 1 := by omega
  have e2 : Int.toNat (if 0 > (r : Int) - 1 then 0 else (r : Int) - 1) = r - 1 := by split <;> omega
  unfold nearKs
  rw [e1, e2, zs, ← List.map_drop, ← List.map_take, List.drop_take, List.length_map]
  congr 1
  rw [List.take_eq_take_iff, List.length_drop]
  rcases Nat.le_total (r + 1) ks.length with h | h
  · rw [Nat.min_eq_left h]
  · rw [Nat.min_eq_right h, Nat.min_self, Nat.min_eq_right (Nat.sub_le_sub_right h _)]
/-- a is the least of what xor makes of x and the keys of q -/
def IsApart (q : List Nat) (x a : Nat) : Prop := (∃ k ∈ q, k ^^^ x = a) ∧ ∀ k ∈ q, a ≤ k ^^^ x
theorem apart_is {q : List Nat} {x a : Nat} (h : IsApart q x a) {M : Int} (hm : M ∈ (zs q).map (fun k => Builtin.bitXor k (x : Int))) (hle : ∀ b, b ∈ (zs q).map (fun k => Builtin.bitXor k (x : Int)) → M ≤ b) : M = (a : Int) := by
  obtain ⟨⟨k, hk, e⟩, hall⟩ := h
  have h1 : M ≤ (a : Int) := by
    have := hle (Builtin.bitXor (k : Int) (x : Int)) (List.mem_map.mpr ⟨(k : Int), List.mem_map.mpr ⟨k, hk, rfl⟩, rfl⟩)
    rw [bitXor_nat, e] at this
    exact this
  obtain ⟨z, hz, rfl⟩ := List.mem_map.mp hm
  obtain ⟨k', hk', rfl⟩ := List.mem_map.mp hz
  rw [bitXor_nat] at h1 ⊢
  have := hall k' hk'
  omega
theorem near_pos {ks : List Nat} {r : Nat} (h0 : 0 < ks.length) (hr : r ≤ ks.length) : 0 < (nearKs ks r).length := by
  unfold nearKs
  rw [List.length_drop, List.length_take]
  omega
end Mine
end

theorem Mine.calmW11 : True := by
  w_top off
  k_with_none
  k_with "k_ne" => (refine neN ?_; (try dsimp only); first | with_reducible assumption | with_reducible exact Ne.symm (by assumption))
  exact True.intro
section
open PySem PySem.W PyProof.Rows PySem.Calls PySem.Spec PyProof.V
namespace Mine
section
variable {w : World} {mean : ExcName → Option Value} {mg mb : Str → Option Value}
theorem law_top_t {n t : Nat} (h0 : 0 < n) (hn0 : n < 16 ^ 16) (ht : Nat.log2 n = t) (tx : Tok) : Tells 3 w mean mg mb 118 [] [.int (n : Int) tx] (fun v => ∃ u, v = .int (t : Int) u) := ht ▸ law_top_tells n h0 hn0 tx
theorem irshift_nat {x t : Nat} (ht : t ≤ 64) (tx tt : Tok) : Tells 1 w mean mg mb 70 [] [.int (x : Int) tx, .int (t : Int) tt] (fun v => ∃ u, v = .int ((x / 2 ^ t : Nat) : Int) u) := by
  have h := irshift_tells (w := w) (mean := mean) (mg := mg) (mb := mb) (x : Int) (t : Int) tx tt (by omega) (by omega)
  rw [Int.toNat_natCast, fdiv_nat] at h
  exact h
theorem ilshift_nat {x t : Nat} (ht : t ≤ 64) (hx : x < 18446744073709551616) (tx tt : Tok) : Tells 1 w mean mg mb 49 [] [.int (x : Int) tx, .int (t : Int) tt] (fun v => ∃ u, v = .int ((x * 2 ^ t : Nat) : Int) u) := by
  have h := ilshift_tells (w := w) (mean := mean) (mg := mg) (mb := mb) (x : Int) (t : Int) tx tt (by omega) (by omega) (by omega) (by omega)
  have e : (x : Int) * 2 ^ (t : Int).toNat = ((x * 2 ^ t : Nat) : Int) := by rw [Int.toNat_natCast]; push_cast; rfl
  rw [e] at h
  exact h
theorem ior_one {x : Nat} (tx tt : Tok) : Tells 1 w mean mg mb 63 [] [.int (x : Int) tx, .int 1 tt] (fun v => ∃ u, v = .int ((x ||| 1 : Nat) : Int) u) := by
  have h := ior_tells (w := w) (mean := mean) (mg := mg) (mb := mb) (x : Int) 1 tx tt
  have e : Builtin.bitOr (x : Int) 1 = ((x ||| 1 : Nat) : Int) := bitOr_nat x 1
  rw [e] at h
  exact h
theorem isub_one {x : Nat} (hx : 0 < x) (tx tt : Tok) : Tells 1 w mean mg mb 77 [] [.int (x : Int) tx, .int 1 tt] (fun v => ∃ u, v = .int ((x - 1 : Nat) : Int) u) := by
  have h := isub_tells (w := w) (mean := mean) (mg := mg) (mb := mb) (x : Int) 1 tx tt
  have e : (x : Int) - 1 = ((x - 1 : Nat) : Int) := by omega
  rw [e] at h
  exact h
end
section
variable {prog : Program} {w : World} {A : Around} {E : Value → Shared → Prop} {s : Shared} {h₀ : Heap} {L l : Addr} {m : Str → Option Value} {news : List (Addr × Obj)} {Q : Value → Shared → Prop}
theorem min_near {ks : List Nat} {r x a : Nat} {ys : List Value} (h0 : 0 < ks.length) (hr : r ≤ ks.length) (ha : IsApart (nearKs ks r) x a) (hh : A.handled = none) (F : Fr h₀ L s.heap m) (N : News h₀ L s.heap news)
    (hl : s.heap.IsList l ys.toArray) (hi : IntsAre ys (List.map (fun k => Builtin.bitXor k (x : Int)) (List.take (min (Int.toNat ((r : Int) + 1)) (List.length (zs ks)) - Int.toNat (if 0 > (r : Int) - 1 then 0 else (r : Int) - 1)) (List.drop (Int.toNat (if 0 > (r : Int) - 1 then 0 else (r : Int) - 1)) (zs ks)))))
    (h : ∀ h' t tk, Fr h₀ L h' m → News h₀ L h' news → Q (.int (a : Int) t) { s with heap := h', toks := tk }) : wpAny (model prog w) A (call (.builtin "min") [.ref l]) Q E s := by
  rw [near_eq] at hi
  refine min_list_N hh F N hl hi (by rw [List.length_map, List.length_map]; exact near_pos h0 hr) fun h' M t tk F' N' hm hle => ?_
  rw [apart_is ha hm hle]
  exact h h' t tk F' N'
end
theorem place_ret {h₀ h' : Heap} {L D : Addr} {m : Str → Option Value} {news rest : List (Addr × Obj)} {s : Shared} {Q : Value → Shared → Prop} {zz : List Int} {u v : Value} {tk' : Nat}
    (hret : ∀ D us h' tk', IntsAre us zz → Fr h₀ L h' m → News h₀ L h' ((D, listOf us.toArray 0) :: news) → Q (.ref D) { s with heap := h', toks := tk' }) (F : Fr h₀ L h' m) (N : News h₀ L h' ((D, listOf #[u, v] 0) :: rest)) (hs : ∀ p ∈ news, p ∈ rest) (I : IntsAre [u, v] zz) :
    Q (.ref D) { s with heap := h', toks := tk' } := hret D [u, v] h' tk' I F fun p hp => by
  rcases List.mem_cons.mp hp with rfl | hp
  · exact N _ (.head _)
  · exact N p (List.mem_cons_of_mem _ (hs p hp))
theorem rulesW11_0 : True := by
  k_with "cell_enter" => (refine' code_defC ?k1 ?k2 ?k3 ?k4 ?k5 ?kA ?kF ?kK ?k6 ?k7 ?k8 ?k9 ?kB ?kD ?_ ?c2 ?c3 ?c4; (case kA => exact rfl); (case kF => exact rfl); (case kK => assumption); (case k1 => k_asm); (case k2 => k_asm); (case k3 => k_asm); (case k4 => k_asm); (case k5 => k_asm); (case k6 => k_is); (case k7 => k_is); (case k8 => ktr_room); (case k9 => exact BindsTo.of_eq rfl); (case kB => exact rfl); (case kD => decide +kernel); (case c2 => exact rfl); (case c3 => exact rfl); (case c4 => exact rfl); k_whole; intro g' L' h' tk' cells' FG' F' N' Y' B' X' T' l1; (try k_lt l1); k_cells Y'; (try simp only [List.cons_append, List.nil_append] at N'); (try dsimp only); (try k_lift B'); (try k_fold))
  k_with "call builtin:min" => (k_here; (with_reducible show wpAny _ _ (call (Value.builtin _) [Value.ref _]) _ _ _); (with_unfolding_all refine' min_near ?h0 ?hr ?ha ?k6 ?k1 ?k2 ?k3 ?k4 ?_; (case k1 => k_asm); (case k2 => k_asm); (case k3 => kso_list); (case k4 => l_ints); (case k6 => with_unfolding_all rfl); (case h0 => assumption); (case hr => assumption); (case ha => assumption)); intro h' t' k' F' N')
  k_with "call ref" => (k_here; (with_reducible show wpAny _ _ (call (Value.ref 21) _) _ _ _); k_dflt (refine' Tells.use ?k1 ?k2 ?k3 ?k4 ?k5 ?kK (xor_tells _ _ _ _) ?kn ?kd ?ku ?_); (case k1 => k_asm); (case k2 => k_asm); (case k3 => k_asm); (case k4 => k_asm); (case k5 => k_asm); (case kK => exact rfl); (case kn => exact need0); (case kd => ktr_room); (case ku => ktr_units); intro v' h' tk' hR F' N'; obtain ⟨t', hE'⟩ := hR; subst hE'; (try dsimp only))
  k_with "call ref" => (k_here; (with_reducible show wpAny _ _ (call (Value.ref 118) _) _ _ _); k_dflt (refine' Tells.use ?k1 ?k2 ?k3 ?k4 ?k5 ?kK (law_top_t (by assumption) (by assumption) (by assumption) _) ?kn ?kd ?ku ?_); (case k1 => k_asm); (case k2 => k_asm); (case k3 => k_asm); (case k4 => k_asm); (case k5 => k_asm); (case kK => exact rfl); (case kn => exact need0); (case kd => ktr_room); (case ku => ktr_units); intro v' h' tk' hR F' N'; obtain ⟨t', hE'⟩ := hR; subst hE'; (try dsimp only))
  k_with "call ref" => (k_here; (with_reducible show wpAny _ _ (call (Value.ref 70) _) _ _ _); k_dflt (refine' Tells.use ?k1 ?k2 ?k3 ?k4 ?k5 ?kK (irshift_nat ?b0 _ _) ?kn ?kd ?ku ?_); (case b0 => assumption); (case k1 => k_asm); (case k2 => k_asm); (case k3 => k_asm); (case k4 => k_asm); (case k5 => k_asm); (case kK => exact rfl); (case kn => exact need0); (case kd => ktr_room); (case ku => ktr_units); intro v' h' tk' hR F' N'; obtain ⟨t', hE'⟩ := hR; subst hE'; (try dsimp only))
  k_with "call ref" => (k_here; (with_reducible show wpAny _ _ (call (Value.ref 49) _) _ _ _); k_dflt (refine' Tells.use ?k1 ?k2 ?k3 ?k4 ?k5 ?kK (ilshift_nat ?b0 ?b1 _ _) ?kn ?kd ?ku ?_); (case b0 => assumption); (case b1 => assumption); (case k1 => k_asm); (case k2 => k_asm); (case k3 => k_asm); (case k4 => k_asm); (case k5 => k_asm); (case kK => exact rfl); (case kn => exact need0); (case kd => ktr_room); (case ku => ktr_units); intro v' h' tk' hR F' N'; obtain ⟨t', hE'⟩ := hR; subst hE'; (try dsimp only))
  k_with "call ref" => (k_here; (with_reducible show wpAny _ _ (call (Value.ref 63) _) _ _ _); k_dflt (refine' Tells.use ?k1 ?k2 ?k3 ?k4 ?k5 ?kK (ior_one _ _) ?kn ?kd ?ku ?_); (case k1 => k_asm); (case k2 => k_asm); (case k3 => k_asm); (case k4 => k_asm); (case k5 => k_asm); (case kK => exact rfl); (case kn => exact need0); (case kd => ktr_room); (case ku => ktr_units); intro v' h' tk' hR F' N'; obtain ⟨t', hE'⟩ := hR; subst hE'; (try dsimp only))
  k_with "call ref" => (k_here; (with_reducible show wpAny _ _ (call (Value.ref 77) _) _ _ _); k_dflt (refine' Tells.use ?k1 ?k2 ?k3 ?k4 ?k5 ?kK (isub_one ?b0 _ _) ?kn ?kd ?ku ?_); (case b0 => assumption); (case k1 => k_asm); (case k2 => k_asm); (case k3 => k_asm); (case k4 => k_asm); (case k5 => k_asm); (case kK => exact rfl); (case kn => exact need0); (case kd => ktr_room); (case ku => ktr_units); intro v' h' tk' hR F' N'; obtain ⟨t', hE'⟩ := hR; subst hE'; (try dsimp only))
  k_with "call ref" => (k_here; (with_reducible show wpAny _ _ (call (Value.ref 125) _) _ _ _); k_dflt (refine' Tells.use ?k1 ?k2 ?k3 ?k4 ?k5 ?kK (law_sketch_tells _ _ _ _ ?hi ?hl ?hp _ _) ?kn ?kd ?ku ?_); (case k1 => k_asm); (case k2 => k_asm); (case k3 => k_asm); (case k4 => k_asm); (case k5 => k_asm); (case kK => exact rfl); (case kn => exact need1 (by k_mem)); (case kd => ktr_room); (case ku => ktr_units); (case hi => assumption); (case hl => assumption); (case hp => assumption); intro v' h' tk' hR F' N'; obtain ⟨t', hE'⟩ := hR; subst hE'; (try dsimp only))
  k_with "call ref" => (k_here; (with_reducible show wpAny _ _ (call (Value.ref 132) _) _ _ _); k_dflt (refine' Tells.use ?k1 ?k2 ?k3 ?k4 ?k5 ?kK (law_below_tells (by assumption) (by assumption) (by assumption) (by assumption) (by assumption) (by assumption) (by assumption) (by assumption) ?hz _ _ _ _) ?kn ?kd ?ku ?_); (case hz => (simp only [List.length_map]; omega)); (case k1 => k_asm); (case k2 => k_asm); (case k3 => k_asm); (case k4 => k_asm); (case k5 => k_asm); (case kK => exact rfl); (case kn => exact need0); (case kd => ktr_room); (case ku => ktr_units); intro v' h' tk' hR F' N'; obtain ⟨t', hE'⟩ := hR; subst hE'; (try dsimp only))
  exact True.intro
set_option maxRecDepth 100000 in
set_option maxHeartbeats 8000000 in
theorem law_place_0 {w : World} {mean : ExcName → Option Value} {mg mb : Str → Option Value} {l lp : Addr} {vs vps : List Value} {ks ps : List Nat} {c cp : Nat} (hi : IntsAre vs (zs ks)) (hip : IntsAre vps (zs ps)) (hk0 : 0 < ks.length) (hkl : ks.length ≤ 7) (hpl : ps.length ≤ 7) (hpp : ∀ p ∈ ps, p < 64)
   {x r : Nat} (hr : r ≤ ks.length) (hap : IsApart (nearKs ks r) x 0) {packed ones : Int}  (tn tp to tx : Tok)
   {dp un : Nat} {gd : Option (List Code)} {cn : Str} {cs : Scope} {ad : Addr} {ccd : Value} {cls : List (Str × Addr)} {outer : List Env} {A₀ : Around} {base h₀ : Heap} {L : Addr} {m : Str → Option Value} {news : List (Addr × Obj)} {s : Shared} {Q E : Value → Shared → Prop}
    (B : Below A₀ base outer h₀) (F : Fr h₀ L s.heap m) (X : (KK w).In h₀) (N0 : News h₀ L s.heap news) (hm1 : (l, listOf vs.toArray c) ∈ news) (hm2 : (lp, listOf vps.toArray cp) ∈ news) (T : TopH mean mg mb h₀) (hk : cs.kind = .function)
    (hd : dp + 8 < recursionLimit) (hu : un + 64 < cLine)
    (hret : ∀ D us h' tk', IntsAre us [(r : Int), (r : Int) + 1] → Fr h₀ L h' m → News h₀ L h' ((D, listOf us.toArray 0) :: news) → Q (.ref D) { s with heap := h', toks := tk' }) :
    wpAny (model prg w) (ktrTop dp un gd cn cs L ad ccd cls outer) (call (.ref 137) [.int (r : Int) tn, .ref l, .ref lp, .int packed tp, .int ones to, .int (x : Int) tx]) Q E s := by
  have N := news_dup (news_dup N0 hm1) (List.mem_cons_of_mem _ hm2)
  clear N0
  revert X T
  unfold prg KK TopH
  k_fill
  intro X T
  refine wpAny_call ?_
  k_dflt cell_enter
  k_steps
  all_goals first
    | (apply place_ret hret; assumption; assumption; (intro p hp; repeat (first | exact hp | refine List.mem_cons_of_mem _ ?_)); exact .cons _ _ (.cons _ _ .nil))
    | (exfalso; first | contradiction | omega)
    | skip
set_option maxRecDepth 100000 in
set_option maxHeartbeats 8000000 in
theorem law_place_odd {w : World} {mean : ExcName → Option Value} {mg mb : Str → Option Value} {l lp : Addr} {vs vps : List Value} {ks ps : List Nat} {c cp : Nat} (hi : IntsAre vs (zs ks)) (hip : IntsAre vps (zs ps)) (hk0 : 0 < ks.length) (hkl : ks.length ≤ 7) (hpl : ps.length ≤ 7) (hpp : ∀ p ∈ ps, p < 64)
   {x r : Nat} (hr : r ≤ ks.length) {ap t : Nat} (hap : IsApart (nearKs ks r) x ap) (ha0 : 0 < ap) (ha1 : ap < 16 ^ 16) (htop : Nat.log2 ap = t) (ht : t ≤ 64) (hx : x / 2 ^ t < 18446744073709551616) (hodd : Int.fmod ((x / 2 ^ t : Nat) : Int) 2 = 1) (hy : 0 < x / 2 ^ t * 2 ^ t) {packed ones : Int} {n a b : Nat} (ho0 : 0 ≤ ones) (ho1 : ones < 18446744073709551616) (hs0 : 0 ≤ ((skN (x / 2 ^ t * 2 ^ t - 1) ps : Nat) : Int) + 1) (hs1 : ((skN (x / 2 ^ t * 2 ^ t - 1) ps : Nat) : Int) + 1 < 1024) (hz : Builtin.bitAnd (packed - ones * (((skN (x / 2 ^ t * 2 ^ t - 1) ps : Nat) : Int) + 1)) (ones * 128) = (n : Int)) (hn0 : n < 16 ^ 16) (hw : hexW n = maskW a b) (hab : a + b ≤ 7) (hab2 : a + b = ks.length) (tn tp to tx : Tok)
   {dp un : Nat} {gd : Option (List Code)} {cn : Str} {cs : Scope} {ad : Addr} {ccd : Value} {cls : List (Str × Addr)} {outer : List Env} {A₀ : Around} {base h₀ : Heap} {L : Addr} {m : Str → Option Value} {news : List (Addr × Obj)} {s : Shared} {Q E : Value → Shared → Prop}
    (B : Below A₀ base outer h₀) (F : Fr h₀ L s.heap m) (X : (KK w).In h₀) (N0 : News h₀ L s.heap news) (hm1 : (l, listOf vs.toArray c) ∈ news) (hm2 : (lp, listOf vps.toArray cp) ∈ news) (T : TopH mean mg mb h₀) (hk : cs.kind = .function)
    (hd : dp + 8 < recursionLimit) (hu : un + 64 < cLine)
    (hret : ∀ D us h' tk', IntsAre us [(b : Int), (b : Int)] → Fr h₀ L h' m → News h₀ L h' ((D, listOf us.toArray 0) :: news) → Q (.ref D) { s with heap := h', toks := tk' }) :
    wpAny (model prg w) (ktrTop dp un gd cn cs L ad ccd cls outer) (call (.ref 137) [.int (r : Int) tn, .ref l, .ref lp, .int packed tp, .int ones to, .int (x : Int) tx]) Q E s := by
  have N := news_dup (news_dup N0 hm1) (List.mem_cons_of_mem _ hm2)
  clear N0
  revert X T
  unfold prg KK TopH
  k_fill
  intro X T
  refine wpAny_call ?_
  k_dflt cell_enter
  k_steps
  all_goals first
    | (apply place_ret hret; assumption; assumption; (intro p hp; repeat (first | exact hp | refine List.mem_cons_of_mem _ ?_)); exact .cons _ _ (.cons _ _ .nil))
    | (exfalso; first | contradiction | omega)
    | skip
set_option maxRecDepth 100000 in
set_option maxHeartbeats 8000000 in
theorem law_place_even {w : World} {mean : ExcName → Option Value} {mg mb : Str → Option Value} {l lp : Addr} {vs vps : List Value} {ks ps : List Nat} {c cp : Nat} (hi : IntsAre vs (zs ks)) (hip : IntsAre vps (zs ps)) (hk0 : 0 < ks.length) (hkl : ks.length ≤ 7) (hpl : ps.length ≤ 7) (hpp : ∀ p ∈ ps, p < 64)
   {x r : Nat} (hr : r ≤ ks.length) {ap t : Nat} (hap : IsApart (nearKs ks r) x ap) (ha0 : 0 < ap) (ha1 : ap < 16 ^ 16) (htop : Nat.log2 ap = t) (ht : t ≤ 64) (hx : (x / 2 ^ t ||| 1) < 18446744073709551616) (hodd : ¬ Int.fmod ((x / 2 ^ t : Nat) : Int) 2 = 1) {packed ones : Int} {n a b : Nat} (ho0 : 0 ≤ ones) (ho1 : ones < 18446744073709551616) (hs0 : 0 ≤ ((skN ((x / 2 ^ t ||| 1) * 2 ^ t) ps : Nat) : Int)) (hs1 : ((skN ((x / 2 ^ t ||| 1) * 2 ^ t) ps : Nat) : Int) < 1024) (hz : Builtin.bitAnd (packed - ones * (((skN ((x / 2 ^ t ||| 1) * 2 ^ t) ps : Nat) : Int))) (ones * 128) = (n : Int)) (hn0 : n < 16 ^ 16) (hw : hexW n = maskW a b) (hab : a + b ≤ 7) (hab2 : a + b = ks.length) (tn tp to tx : Tok)
   {dp un : Nat} {gd : Option (List Code)} {cn : Str} {cs : Scope} {ad : Addr} {ccd : Value} {cls : List (Str × Addr)} {outer : List Env} {A₀ : Around} {base h₀ : Heap} {L : Addr} {m : Str → Option Value} {news : List (Addr × Obj)} {s : Shared} {Q E : Value → Shared → Prop}
    (B : Below A₀ base outer h₀) (F : Fr h₀ L s.heap m) (X : (KK w).In h₀) (N0 : News h₀ L s.heap news) (hm1 : (l, listOf vs.toArray c) ∈ news) (hm2 : (lp, listOf vps.toArray cp) ∈ news) (T : TopH mean mg mb h₀) (hk : cs.kind = .function)
    (hd : dp + 8 < recursionLimit) (hu : un + 64 < cLine)
    (hret : ∀ D us h' tk', IntsAre us [(b : Int), (b : Int)] → Fr h₀ L h' m → News h₀ L h' ((D, listOf us.toArray 0) :: news) → Q (.ref D) { s with heap := h', toks := tk' }) :
    wpAny (model prg w) (ktrTop dp un gd cn cs L ad ccd cls outer) (call (.ref 137) [.int (r : Int) tn, .ref l, .ref lp, .int packed tp, .int ones to, .int (x : Int) tx]) Q E s := by
  have N := news_dup (news_dup N0 hm1) (List.mem_cons_of_mem _ hm2)
  clear N0
  revert X T
  unfold prg KK TopH
  k_fill
  intro X T
  refine wpAny_call ?_
  k_dflt cell_enter
  k_steps
  all_goals first
    | (apply place_ret hret; assumption; assumption; (intro p hp; repeat (first | exact hp | refine List.mem_cons_of_mem _ ?_)); exact .cons _ _ (.cons _ _ .nil))
    | (exfalso; first | contradiction | omega)
    | skip
end Mine
end

theorem Mine.calmW12 : True := by
  w_top off
  k_with_none
  k_with "k_ne" => (refine neN ?_; (try dsimp only); first | with_reducible assumption | with_reducible exact Ne.symm (by assumption))
  exact True.intro
section
open PySem PySem.W PyProof.Rows PySem.Calls PySem.Spec PyProof.V
namespace Mine
section
variable {prog : Program} {w : World} {A : Around} {s : Shared} {env : Env} {h₀ : Heap}
/-- what a turn's body comes to: the rest of the loop's facts -/
def AnyPost (h₀ : Heap) (L : Addr) (s : Shared) (it : Addr × Obj) (J : (Str → Option Value) → List (Addr × Obj) → Prop) (Q : Flow → Shared → Prop) (f : Flow) (s₂ : Shared) : Prop :=
  match f with
  | .ret v => Q (.ret v) s₂
  | .brk => Q .next s₂
  | _ => ∃ h' tk' m' nx, s₂ = { s with heap := h', toks := tk' } ∧ Fr h₀ L h' m' ∧ News h₀ L h' (it :: nx) ∧ J m' nx
theorem AnyPost.next {L : Addr} {it : Addr × Obj} {J : (Str → Option Value) → List (Addr × Obj) → Prop} {Q : Flow → Shared → Prop} {h' : Heap} {tk' : Nat} {m' : Str → Option Value} {all : List (Addr × Obj)} (nx : List (Addr × Obj))
    (F : Fr h₀ L h' m') (N : News h₀ L h' all) (hs : ∀ p ∈ it :: nx, p ∈ all) (hJ : J m' nx) : AnyPost h₀ L s it J Q .next { s with heap := h', toks := tk' } :=
  ⟨h', tk', m', nx, rfl, F, fun p hp => N p (hs p hp), hJ⟩

theorem forLoop_any {R : Result → Shared → Prop} {target : Expr} {body : List Stmt} {I : Addr} {fp : List Addr} {n : Nat} {P : Nat → Value → Prop} {St : Nat → Heap → Prop} {m : Str → Option Value} {news : List (Addr × Obj)}
    (W : Walks prog w A I fp [I] n P St) (hI : I ∈ fp) (hLI : env.locals ≠ I) (hI0 : h₀.get? I = none) (hIn : ∀ h, (∃ i, St i h) → ∃ o, h.get? I = some o) (adr : List Addr) (hIa : ∀ a ∈ adr, a ≠ I)
    (J : Nat → (Str → Option Value) → List (Addr × Obj) → Prop) (hadr : ∀ i m nx, J i m nx → nx.map (·.1) = adr) (hfp : ∀ b ∈ fp, b = I ∨ ∃ o, ∀ i m nx, J i m nx → (b, o) ∈ nx)
    (hst : St 0 s.heap) (F : Fr h₀ env.locals s.heap m) (N : News h₀ env.locals s.heap news) (h0 : J 0 m news)
    (step : ∀ i v m₁ nx h tk oI, i < n → P i v → J i m₁ nx → Fr h₀ env.locals h m₁ → News h₀ env.locals h ((I, oI) :: nx) →
      wpAny (model prog w) A (assign target env v) (fun _ s₂ => wpAny (model prog w) A (execs body env) (AnyPost h₀ env.locals s (I, oI) (J (i + 1)) (fun f s' => R (.ok f) s')) (notedBy (model prog w) A env fun e s' => R (.error e) s') s₂)
        (notedBy (model prog w) A env fun e s' => R (.error e) s') { s with heap := h, toks := tk })
    (hR : ∀ h' tk m' nx, J n m' nx → Fr h₀ env.locals h' m' → News h₀ env.locals h' nx → R (.ok .next) { s with heap := h', toks := tk })
    (ht : ∀ v, letOwnedTupleGo target (.ref I) v = pure () := by intro _; rfl) :
    codeAny (model prog w) A (.forLoop target (.ref I) body [] env) R s := by
  refine codeAny_forLoop
    (fun k s' => ∃ h' tk m' nx i, s' = { s with heap := h', toks := tk } ∧ St i h' ∧ Fr h₀ env.locals h' m' ∧ News h₀ env.locals h' nx ∧ J i m' nx ∧ i ≤ n ∧ k = n + 1 - i) ?_ (n + 1)
    ⟨s.heap, s.toks, m, news, 0, rfl, hst, F, N, h0, Nat.zero_le _, rfl⟩ ht
  rintro k s' ⟨h', tk, m', nx, i, rfl, hst', F', N', hJ, hi, rfl⟩
  have hnI : ∀ p ∈ nx, p.1 ≠ I := fun p hp => hIa _ (hadr _ _ _ hJ ▸ List.mem_map_of_mem hp)
  have next : ∀ h₁ : Heap, (∀ b o, b ∉ [I] → h'.get? b = some o → h₁.get? b = some o) → Fr h₀ env.locals h₁ m' ∧ News h₀ env.locals h₁ nx := fun h₁ hk₁ =>
    ⟨⟨F'.ns.at' fun o e => hk₁ _ o (fun q => hLI (List.mem_singleton.mp q)) e, fun b o e => hk₁ b o (fun q => by rw [List.mem_singleton.mp q, hI0] at e; cases e) (F'.keep b o e), F'.above⟩,
      fun p hp => ⟨hk₁ _ _ (fun q => hnI p hp (List.mem_singleton.mp q)) (N' p hp).1, (N' p hp).2⟩⟩
  by_cases hlt : i < n
  · refine W.item i _ _ _ hlt hst' fun v h₁ tk₁ hP hst₁ hk₁ => ?_
    obtain ⟨F₁, N₁⟩ := next h₁ hk₁
    obtain ⟨oI, hoI⟩ := hIn h₁ ⟨_, hst₁⟩
    have N₂ : News h₀ env.locals h₁ ((I, oI) :: nx) := fun p hp => by
      rcases List.mem_cons.mp hp with rfl | hp
      · exact ⟨hoI, Ne.symm hLI, hI0⟩
      · exact N₁ p hp
    refine wpAny_mono (step i v m' nx h₁ tk₁ oI hlt hP hJ F₁ N₂) (fun _ s₂ h₂ => wpAny_mono h₂ (fun f s₃ h₃ => ?_) fun _ _ e => e) fun _ _ e => e
    have fin : (∃ h' tk' m' nx, s₃ = { s with heap := h', toks := tk' } ∧ Fr h₀ env.locals h' m' ∧ News h₀ env.locals h' ((I, oI) :: nx) ∧ J (i + 1) m' nx) →
        ∃ k', k' < n + 1 - i ∧ ∃ h' tk m' nx i, s₃ = { s with heap := h', toks := tk } ∧ St i h' ∧ Fr h₀ env.locals h' m' ∧ News h₀ env.locals h' nx ∧ J i m' nx ∧ i ≤ n ∧ k' = n + 1 - i := by
      rintro ⟨h₃', tk₃, m₃, nx₃, rfl, F₃, N₃, hJ₃⟩
      refine ⟨n + 1 - (i + 1), by omega, h₃', tk₃, m₃, nx₃, i + 1, rfl, ?_, F₃, fun p hp => N₃ p (List.mem_cons_of_mem _ hp), hJ₃, hlt, rfl⟩
      refine W.frame _ _ _ hst₁ fun b hb o e => ?_
      rcases hfp b hb with rfl | ⟨ob, hob⟩
      · rw [hoI] at e; cases e
        exact (N₃ _ (.head _)).1
      · have e1 := (N₁ _ (hob _ _ _ hJ)).1
        rw [e1] at e; cases e
        exact (N₃ _ (List.mem_cons_of_mem _ (hob _ _ _ hJ₃))).1
    cases f with
    | ret v => exact h₃
    | brk => exact h₃
    | cont => exact fin h₃
    | next => exact fin h₃
  · have hin : i = n := by omega
    subst hin
    refine W.done _ _ _ hst' fun h₁ tk₁ hk₁ => wpAny_execs_nil ?_
    obtain ⟨F₁, N₁⟩ := next h₁ hk₁
    exact hR h₁ tk₁ m' nx hJ F₁ N₁

/-- a for over a list of the ledger, whatever its target -/
theorem For_list {E : Value → Shared → Prop} {Q : Flow → Shared → Prop} {target iter : Expr} {pos : Pos} {body : List Stmt} {l : Addr} {vs : List Value} {nn : Nat} {m : Str → Option Value} {news : List (Addr × Obj)}
    (hh : A.handled = none) (adr : List Addr) (J : Nat → (Str → Option Value) → List (Addr × Obj) → Prop) (hadr : ∀ i m nx, J i m nx → nx.map (·.1) = adr) (hl : ∀ i m nx, J i m nx → (l, listOf vs.toArray nn) ∈ nx)
    (he : ∀ Q' : Value → Shared → Prop, (∀ h tk, Fr h₀ env.locals h m → News h₀ env.locals h news → Q' (.ref l) { s with heap := h, toks := tk }) → wpAny (model prog w) A (eval iter env) Q' E s)
    (h0 : J 0 m news)
    (step : ∀ i v m₁ nx h tk it, vs[i]? = some v → J i m₁ nx → (∀ p ∈ nx, p.1 ≠ it.1) → Fr h₀ env.locals h m₁ → News h₀ env.locals h (it :: nx) →
      wpAny (model prog w) A (assign target env v) (fun _ s₂ => wpAny (model prog w) A (execs body env) (AnyPost h₀ env.locals s it (J (i + 1)) Q) E s₂) E { s with heap := h, toks := tk })
    (done : ∀ h' tk m' nx, J vs.length m' nx → Fr h₀ env.locals h' m' → News h₀ env.locals h' nx → Q .next { s with heap := h', toks := tk })
    (hs : ∀ x, foldedSetIterable iter env x = pure x := by intro _; rfl)
    (ht : ∀ it v, letOwnedTupleGo target it v = pure () := by intro _ _; rfl)
    (hE : PassesOwn (model prog w) A env E := by passes_own) :
    wpAny (model prog w) A (exec (.For target iter body [] pos) env) Q E s := by
  refine wpAny_For (he _ fun h tk F N => ?_) hs
  have hm := hl _ _ _ h0
  have hL : h.IsList l vs.toArray := ⟨_, (N _ hm).1, rfl, nn, rfl⟩
  have hlt := F.ns.lt
  have hll : l ≠ h.objs.size := Nat.ne_of_lt (Heap.lt_size (N _ hm).1)
  refine wpAny_pyIter_list (s := ⟨_, _, _, _, _⟩) hL ?_
  have Wk := Walks.list (prog := prog) (w := w) (A := A) hh h.objs.size l hll vs.toArray
  refine forLoop_any (s := ⟨_, _, _, _, _⟩) (h₀ := h₀) (R := fun r s' => match r with | .ok f => Q f s' | .error e => cameBackBy (model prog w) A env E e s') Wk (.head _) (Nat.ne_of_lt hlt) (next_is_new F)
    (fun h' ⟨i, hi⟩ => ?_) adr (fun a ha => ?_) J hadr (fun b hb => ?_) ⟨⟨_, Heap.get?_push_size _ rfl, rfl, rfl⟩, hL.at fun o e => Heap.get?_push_of_some _ e⟩ (F.push _)
    (fun p hp => ⟨Heap.get?_push_of_some _ (N p hp).1, (N p hp).2⟩) h0 (fun i v m₁ nx h₁ tk₁ oI hi hP hJ F₁ N₁ => ?_) (fun h' tk' m' nx hJ F' N' => ?_) (fun v => ht _ v)
  · obtain ⟨⟨o, ho, _⟩, _⟩ := hi
    exact ⟨o, ho⟩
  · rw [← hadr _ _ _ h0] at ha
    obtain ⟨p, hp, rfl⟩ := List.mem_map.mp ha
    exact Nat.ne_of_lt (Heap.lt_size (N p hp).1)
  · rcases List.mem_cons.mp hb with rfl | hb
    · exact .inl rfl
    · rw [List.mem_singleton.mp hb]
      exact .inr ⟨_, fun i m nx hJ => hl i m nx hJ⟩
  · have hnI : ∀ p ∈ nx, p.1 ≠ h.objs.size := fun p hp => by
      have : p.1 ∈ adr := hadr _ _ _ hJ ▸ List.mem_map_of_mem hp
      rw [← hadr _ _ _ h0] at this
      obtain ⟨q, hq, e⟩ := List.mem_map.mp this
      rw [← e]
      exact Nat.ne_of_lt (Heap.lt_size (N q hq).1)
    exact wpAny_passesOwn hE (wpAny_mono (step i v m₁ nx h₁ tk₁ (_, oI) (by simpa using hP) hJ hnI F₁ N₁) (fun _ s₂ h₂ => wpAny_passesOwn hE h₂) fun _ _ e => e)
  · rw [List.size_toArray] at hJ
    exact done h' tk' m' nx hJ F' N'
/-- a for over a range by ones, whatever it stores -/
theorem For_range {E : Value → Shared → Prop} {Q : Flow → Shared → Prop} {target iter : Expr} {pos : Pos} {body : List Stmt} {a b : Int} {n : Nat} {m : Str → Option Value} {news : List (Addr × Obj)}
    (hh : A.handled = none) (adr : List Addr) (J : Nat → (Str → Option Value) → List (Addr × Obj) → Prop) (hadr : ∀ i m nx, J i m nx → nx.map (·.1) = adr)
    (hsmall : Builtin.Range.small a b 1 = true) (hn : Builtin.Range.rangeSize a b 1 = (n : Int))
    (he : ∀ Q' : Value → Shared → Prop, (∀ h tk r t u v, Fr h₀ env.locals h m → News h₀ env.locals h news → IsRange h r a b 1 t u v → Q' (.ref r) { s with heap := h, toks := tk }) → wpAny (model prog w) A (eval iter env) Q' E s)
    (h0 : J 0 m news)
    (step : ∀ i t m₁ nx h tk it, i < n → J i m₁ nx → (∀ p ∈ nx, p.1 ≠ it.1) → Fr h₀ env.locals h m₁ → News h₀ env.locals h (it :: nx) →
      wpAny (model prog w) A (assign target env (.int (a + (i : Int)) t)) (fun _ s₂ => wpAny (model prog w) A (execs body env) (AnyPost h₀ env.locals s it (J (i + 1)) Q) E s₂) E { s with heap := h, toks := tk })
    (done : ∀ h' tk m' nx, J n m' nx → Fr h₀ env.locals h' m' → News h₀ env.locals h' nx → Q .next { s with heap := h', toks := tk })
    (hs : ∀ x, foldedSetIterable iter env x = pure x := by intro _; rfl)
    (ht : ∀ it v, letOwnedTupleGo target it v = pure () := by intro _ _; rfl)
    (hE : PassesOwn (model prog w) A env E := by passes_own) :
    wpAny (model prog w) A (exec (.For target iter body [] pos) env) Q E s := by
  refine wpAny_For (he _ fun h tk r t u v F N hr => ?_) hs
  have hlt := F.ns.lt
  refine wpAny_pyIter_range (s := ⟨_, _, _, _, _⟩) hr hsmall ?_
  have Wk : Walks prog w A h.objs.size [h.objs.size] [h.objs.size] n (fun i v => i < n ∧ ∃ t, v = .int (a + i * 1) t)
      (fun i h' => IsRangeIter h' h.objs.size (a + (i : Nat) * 1) ((n : Int) - (i : Nat)) 1) := (Walks.range hh _ a 1 n).bound
  refine forLoop_any (s := ⟨_, _, _, _, _⟩) (h₀ := h₀) (R := fun r s' => match r with | .ok f => Q f s' | .error e => cameBackBy (model prog w) A env E e s') Wk (.head _) (Nat.ne_of_lt hlt) (next_is_new F)
    (fun h' ⟨i, hi⟩ => ?_) adr (fun a ha => ?_) J hadr (fun b hb => ?_) (by show IsRangeIter _ _ _ _ _; rw [hn]; simpa using Heap.get?_push_size _ rfl) (F.push _)
    (fun p hp => ⟨Heap.get?_push_of_some _ (N p hp).1, (N p hp).2⟩) h0 (fun i v m₁ nx h₁ tk₁ oI hi hP hJ F₁ N₁ => ?_) (fun h' tk' m' nx hJ F' N' => ?_) (fun v => ht _ v)
  · exact ⟨_, hi⟩
  · rw [← hadr _ _ _ h0] at ha
    obtain ⟨p, hp, rfl⟩ := List.mem_map.mp ha
    exact Nat.ne_of_lt (Heap.lt_size (N p hp).1)
  · rw [List.mem_singleton.mp hb]; exact .inl rfl
  · have hnI : ∀ p ∈ nx, p.1 ≠ h.objs.size := fun p hp => by
      have : p.1 ∈ adr := hadr _ _ _ hJ ▸ List.mem_map_of_mem hp
      rw [← hadr _ _ _ h0] at this
      obtain ⟨q, hq, e⟩ := List.mem_map.mp this
      rw [← e]
      exact Nat.ne_of_lt (Heap.lt_size (N q hq).1)
    obtain ⟨_, t', rfl⟩ := hP
    rw [Int.mul_one]
    exact wpAny_passesOwn hE (wpAny_mono (step i t' m₁ nx h₁ tk₁ (_, oI) hi hJ hnI F₁ N₁) (fun _ s₂ h₂ => wpAny_passesOwn hE h₂) fun _ _ e => e)
  · exact done h' tk' m' nx hJ F' N'
end
end Mine
end

theorem Mine.calmP9 : True := by
  w_top off
  k_with_none
  k_with "k_ne" => (refine neN ?_; (try dsimp only); first | with_reducible assumption | with_reducible exact Ne.symm (by assumption))
  exact True.intro
section
namespace Mine
def KeysOf (ds ks : List Nat) : Prop := ks.Pairwise (· < ·) ∧ (∀ z, z ∈ ks ↔ z ∈ ds) ∧ ks.length ≤ ds.length
theorem zs_sorted {ks : List Nat} (h : ks.Pairwise (· < ·)) : (zs ks).Pairwise (· ≤ ·) := by
  unfold zs
  rw [List.pairwise_map]
  exact h.imp (fun h => by omega)
/-- how many keys are below -/
def clN (ks : List Nat) (x : Nat) : Nat := ks.countP (fun k => decide (k < x))
def crN (ks : List Nat) (x : Nat) : Nat := ks.countP (fun k => decide (k ≤ x))
theorem cl_zs (ks : List Nat) (x : Nat) : cl (zs ks) (x : Int) = (clN ks x : Nat) := by
  unfold cl clN zs
  rw [List.countP_map]
  congr 1
  apply List.countP_congr
  intro a _
  simp
theorem cr_zs (ks : List Nat) (x : Nat) : cr (zs ks) (x : Int) = (crN ks x : Nat) := by
  unfold cr crN zs
  rw [List.countP_map]
  congr 1
  apply List.countP_congr
  intro a _
  simp
/-- in a rising list the ones below stand ahead -/
theorem split_at : ∀ {ks : List Nat}, ks.Pairwise (· < ·) → ∀ x : Nat, (∀ k ∈ ks.take (clN ks x), k < x) ∧ ∀ k ∈ ks.drop (clN ks x), x ≤ k
  | [], _, x => by simp [clN]
  | a :: r, h, x => by
    obtain ⟨h1, h2⟩ := List.pairwise_cons.mp h
    obtain ⟨ih1, ih2⟩ := split_at h2 x
    by_cases ha : a < x
    · have e : clN (a :: r) x = clN r x + 1 := by unfold clN; rw [List.countP_cons]; simp [ha]
      rw [e]
      refine ⟨fun k hk => ?_, fun k hk => ih2 k (by simpa using hk)⟩
      rcases List.mem_cons.mp (by simpa using hk) with rfl | hk
      · exact ha
      · exact ih1 k hk
    · have e0 : clN r x = 0 := List.countP_eq_zero.mpr fun k hk => by have := h1 k hk; simp; omega
      have e : clN (a :: r) x = 0 := by unfold clN at e0 ⊢; rw [List.countP_cons, e0]; simp [ha]
      rw [e]
      refine ⟨by simp, fun k hk => ?_⟩
      rcases List.mem_cons.mp (by simpa using hk) with rfl | hk
      · omega
      · have := h1 k hk; omega
def insN (ks : List Nat) (x : Nat) : List Nat := ks.take (clN ks x) ++ x :: ks.drop (clN ks x)
theorem insN_sorted {ks : List Nat} (h : ks.Pairwise (· < ·)) {x : Nat} (hx : x ∉ ks) : (insN ks x).Pairwise (· < ·) := by
  obtain ⟨h1, h2⟩ := split_at h x
  unfold insN
  rw [List.pairwise_append]
  have hd : ∀ k ∈ ks.drop (clN ks x), x < k := fun k hk => by
    have := h2 k hk
    have : k ≠ x := fun e => hx (e ▸ List.mem_of_mem_drop hk)
    omega
  refine ⟨h.sublist (List.take_sublist _ _), List.pairwise_cons.mpr ⟨hd, h.sublist (List.drop_sublist _ _)⟩, fun a ha b hb => ?_⟩
  rcases List.mem_cons.mp hb with rfl | hb
  · exact h1 a ha
  · exact Nat.lt_trans (h1 a ha) (hd b hb)
theorem insN_mem {ks : List Nat} {x z : Nat} : z ∈ insN ks x ↔ z = x ∨ z ∈ ks := by
  unfold insN
  rw [List.mem_append, List.mem_cons]
  constructor
  · rintro (h | h | h)
    · exact .inr (List.mem_of_mem_take h)
    · exact .inl h
    · exact .inr (List.mem_of_mem_drop h)
  · rintro (h | h)
    · exact .inr (.inl h)
    · rw [← List.take_append_drop (clN ks x) ks, List.mem_append] at h
      rcases h with h | h
      · exact .inl h
      · exact .inr (.inr h)
theorem insN_length (ks : List Nat) (x : Nat) : (insN ks x).length = ks.length + 1 := by
  unfold insN
  have : clN ks x ≤ ks.length := List.countP_le_length
  rw [List.length_append, List.length_cons, List.length_take, List.length_drop]
  omega
theorem KeysOf.put {ds ks : List Nat} {d : Nat} (h : KeysOf ds ks) (hd : d ∉ ks) : KeysOf (ds ++ [d]) (insN ks d) := by
  obtain ⟨h1, h2, h3⟩ := h
  refine ⟨insN_sorted h1 hd, fun z => ?_, by rw [insN_length, List.length_append]; simp; omega⟩
  rw [insN_mem, List.mem_append, h2, List.mem_singleton]
  exact ⟨fun h => h.elim .inr .inl, fun h => h.elim .inr .inl⟩
theorem KeysOf.stay {ds ks : List Nat} {d : Nat} (h : KeysOf ds ks) (hd : d ∈ ks) : KeysOf (ds ++ [d]) ks := by
  obtain ⟨h1, h2, h3⟩ := h
  refine ⟨h1, fun z => ?_, by rw [List.length_append]; simp; omega⟩
  rw [List.mem_append, ← h2, List.mem_singleton]
  exact ⟨.inl, fun h => h.elim id fun e => e ▸ hd⟩
/-- the item at the place is x itself exactly where x is met -/
theorem at_place {ks : List Nat} (h : ks.Pairwise (· < ·)) (x : Nat) : (ks.drop (clN ks x)).take 1 = [x] ↔ x ∈ ks := by
  obtain ⟨h1, h2⟩ := split_at h x
  constructor
  · intro e
    exact List.mem_of_mem_drop (List.mem_of_mem_take (e ▸ List.mem_singleton_self x : x ∈ (ks.drop (clN ks x)).take 1))
  · intro hx
    rw [← List.take_append_drop (clN ks x) ks, List.mem_append] at hx
    rcases hx with hx | hx
    · exact absurd (h1 x hx) (Nat.lt_irrefl _)
    · cases hq : ks.drop (clN ks x) with
      | nil => rw [hq] at hx; cases hx
      | cons a r =>
        have hs : (a :: r).Pairwise (· < ·) := hq ▸ h.sublist (List.drop_sublist _ _)
        rw [hq] at hx h2
        rcases List.mem_cons.mp hx with rfl | hx
        · rfl
        · have := (List.pairwise_cons.mp hs).1 x hx
          have := h2 a (List.mem_cons_self ..)
          omega
end Mine
namespace Mine
def ins' (ns : List Int) (x : Int) (r : Nat) : List Int := ns.take r ++ x :: ns.drop r
theorem take_snoc {ds : List Nat} {i d : Nat} (h : ds[i]? = some d) : ds.take (i + 1) = ds.take i ++ [d] := by
  rw [List.take_add_one, h]; rfl
theorem ins_zs (ks : List Nat) (d : Nat) : ins' (zs ks) (d : Int) (clN ks d) = zs (insN ks d) := by
  unfold ins' insN zs
  rw [List.map_append, List.map_cons, List.map_take, List.map_drop]
theorem place_slice {ks : List Nat} (h : ks.Pairwise (· < ·)) (d : Nat) : List.take (min (Int.toNat (((clN ks d : Nat) : Int) + 1)) (List.length (zs ks)) - Int.toNat ((clN ks d : Nat) : Int)) (List.drop (Int.toNat ((clN ks d : Nat) : Int)) (zs ks)) = [(d : Int)] ↔ d ∈ ks := by
  rw [← at_place h d]
  have e1 : Int.toNat (((clN ks d : Nat) : Int) + 1) = clN ks d + 1 := by omega
  have hle : clN ks d ≤ ks.length := List.countP_le_length
  rw [e1, Int.toNat_natCast, zs, ← List.map_drop, ← List.map_take, List.length_map]
  have e2 : List.take (min (clN ks d + 1) ks.length - clN ks d) (List.drop (clN ks d) ks) = List.take 1 (List.drop (clN ks d) ks) := by
    rw [List.take_eq_take_iff, List.length_drop]
    rcases Nat.le_total (clN ks d + 1) ks.length with q | q
    · rw [Nat.min_eq_left q, Nat.add_sub_cancel_left]
    · have q' : ks.length - clN ks d ≤ 1 := Nat.sub_le_iff_le_add'.mpr q
      rw [Nat.min_eq_right q, Nat.min_self, Nat.min_eq_right q']
  rw [e2]
  constructor
  · intro e
    cases hq : List.take 1 (List.drop (clN ks d) ks) with
    | nil => rw [hq] at e; cases e
    | cons a r =>
      rw [hq] at e
      simp at e
      obtain ⟨e3, e4⟩ := e
      rw [e4]
      congr 1
      omega
  · intro e
    rw [e]; rfl
end Mine
end

theorem Mine.calmW13 : True := by
  w_top off
  k_with_none
  k_with "k_ne" => (refine neN ?_; (try dsimp only); first | with_reducible assumption | with_reducible exact Ne.symm (by assumption))
  exact True.intro
section
open PySem PySem.W PyProof.Rows PySem.Calls PySem.Spec PyProof.V
namespace Mine
def lawBody : List Stmt := match Challenge.pw_wu0040_01.main.body.getLast? with
  | some (.FunctionDef _ _ b _ _ _ _ _ _ _) => b
  | _ => []
def lawScope : Scope := match Challenge.pw_wu0040_01.main.body.getLast? with
  | some (.FunctionDef _ _ _ _ _ _ s _ _ _) => s
  | _ => default
def lawStmt (k : Nat) : Stmt := (lawBody.drop k).headD (.Pass ⟨0, 0, 0, 0⟩)
abbrev lawCells (L : Addr) : List (Str × Addr) := [(Str.ofString "places", L + 1 + 1 + 1), (Str.ofString "forks", L + 1 + 1), (Str.ofString "x", L + 1)]
abbrev lawA (dp un : Nat) (gd : Option (List Code)) (L fa : Addr) (cd : Value) (outer : List Env) : Around := ktrTop dp un gd (Str.ofString "law") lawScope L fa cd (lawCells L) outer
abbrev lawEnv (L fa : Addr) (cd : Value) : Env := envX (Str.ofString "law") lawScope L fa cd (lawCells L)
theorem fr_know {h₀ h : Heap} {L : Addr} {m : Str → Option Value} (F : Fr h₀ L h m) (ps : List (Str × Value)) (hp : ∀ p ∈ ps, m p.1 = some p.2) : Fr h₀ L h (kstB m ps) := by
  have e : kstB m ps = m := funext fun z => kstB_eq hp fun _ => rfl
  rw [e]; exact F
end Mine
end

theorem Mine.calmW14 : True := by
  w_top off
  k_with_none
  k_with "k_ne" => (refine neN ?_; (try dsimp only); first | with_reducible assumption | with_reducible exact Ne.symm (by assumption))
  exact True.intro
section
open PySem PySem.W PyProof.Rows PySem.Calls PySem.Spec PyProof.V
namespace Mine
/-- the ledger of the law's own body: the keys, what was drawn, the three cells -/
abbrev ledK (L lk ld : Addr) (vk vd : List Value) (ck cd : Nat) (ox of op : Obj) : List (Addr × Obj) :=
  [(lk, listOf vk.toArray ck), (ld, listOf vd.toArray cd), (L + 1 + 1 + 1, op), (L + 1 + 1, of), (L + 1, ox)]
theorem insort_upd {w : World} {mean : ExcName → Option Value} {mg mb : Str → Option Value} {l : Addr} {vs : List Value} {ns : List Int} {c : Nat} (hi : IntsAre vs ns) (hlen : ns.length ≤ 64) (hs : ns.Pairwise (· ≤ ·)) (x : Int) (tx : Tok)
   {dp un : Nat} {gd : Option (List Code)} {cn : Str} {cs : Scope} {ad : Addr} {ccd : Value} {cls : List (Str × Addr)} {outer : List Env} {A₀ : Around} {base h₀ : Heap} {L : Addr} {m : Str → Option Value} {news : List (Addr × Obj)} {g : Obj → List (Addr × Obj)} {s : Shared} {Q E : Value → Shared → Prop}
    (B : Below A₀ base outer h₀) (F : Fr h₀ L s.heap m) (X : (KK w).In h₀) (N : News h₀ L s.heap news) (U : UpdF l (listOf vs.toArray c) news g) (T : TopH mean mg mb h₀) (hk : cs.kind = .function)
    (hd : dp + 3 < recursionLimit) (hu : un + 24 < cLine)
    (ret : ∀ vs' h' tk', IntsAre vs' (ins ns x) → Fr h₀ L h' m → News h₀ L h' (g (listOf vs'.toArray (c + 1))) → Q .none { s with heap := h', toks := tk' }) :
    wpAny (model prg w) (ktrTop dp un gd cn cs L ad ccd cls outer) (call (.ref 95) [.ref l, .int x tx]) Q E s := by
  obtain ⟨pre, post, rfl, hg, h1, h2⟩ := U.split
  refine insort_left_tells (rest := pre ++ post) l vs ns c hi hlen hs x tx B F X (fun p hp => N p ?_) T hk (fun p hp => ?_) hd hu fun vs' h' tk' hI F' N' => ret vs' h' tk' hI F' fun p hp => N' p ?_
  · rcases List.mem_cons.mp hp with rfl | hp
    · exact List.mem_append_right _ (.head _)
    · rcases List.mem_append.mp hp with hp | hp
      · exact List.mem_append_left _ hp
      · exact List.mem_append_right _ (.tail _ hp)
  · rcases List.mem_append.mp hp with hp | hp
    · exact h1 p hp
    · exact h2 p hp
  · rw [hg] at hp
    rcases List.mem_append.mp hp with hp | hp
    · exact .tail _ (List.mem_append_left _ hp)
    · rcases List.mem_cons.mp hp with rfl | hp
      · exact .head _
      · exact .tail _ (List.mem_append_right _ hp)
theorem bisect_leftN {w : World} {mean : ExcName → Option Value} {mg mb : Str → Option Value} {l : Addr} {vs : List Value} {ks : List Nat} {c : Nat} (hi : IntsAre vs (zs ks)) (hlen : ks.length ≤ 64) (hs : ks.Pairwise (· < ·)) (x : Nat) (tx : Tok) :
    Tells 2 w mean mg mb 104 [(l, listOf vs.toArray c)] [.ref l, .int (x : Int) tx] (fun v => ∃ t, v = .int ((clN ks x : Nat) : Int) t) := by
  have h := bisect_left_tells (w := w) (mean := mean) (mg := mg) (mb := mb) l vs (zs ks) c hi (by rw [List.length_map]; exact hlen) (zs_sorted hs) (x : Int) tx
  rw [cl_zs] at h
  exact h
theorem bisect_rightN {w : World} {mean : ExcName → Option Value} {mg mb : Str → Option Value} {l : Addr} {vs : List Value} {ks : List Nat} {c : Nat} (hi : IntsAre vs (zs ks)) (hlen : ks.length ≤ 64) (hs : ks.Pairwise (· < ·)) (x : Nat) (tx : Tok) :
    Tells 2 w mean mg mb 86 [(l, listOf vs.toArray c)] [.ref l, .int (x : Int) tx] (fun v => ∃ t, v = .int ((crN ks x : Nat) : Int) t) := by
  have h := bisect_right_tells (w := w) (mean := mean) (mg := mg) (mb := mb) l vs (zs ks) c hi (by rw [List.length_map]; exact hlen) (zs_sorted hs) (x : Int) tx
  rw [cr_zs] at h
  exact h
theorem insort_updN {w : World} {mean : ExcName → Option Value} {mg mb : Str → Option Value} {l : Addr} {vs : List Value} {ks : List Nat} {c : Nat} (hi : IntsAre vs (zs ks)) (hlen : ks.length ≤ 64) (hs : ks.Pairwise (· < ·)) (x : Nat) (tx : Tok)
   {dp un : Nat} {gd : Option (List Code)} {cn : Str} {cs : Scope} {ad : Addr} {ccd : Value} {cls : List (Str × Addr)} {outer : List Env} {A₀ : Around} {base h₀ : Heap} {L : Addr} {m : Str → Option Value} {news : List (Addr × Obj)} {g : Obj → List (Addr × Obj)} {s : Shared} {Q E : Value → Shared → Prop}
    (B : Below A₀ base outer h₀) (F : Fr h₀ L s.heap m) (X : (KK w).In h₀) (N : News h₀ L s.heap news) (U : UpdF l (listOf vs.toArray c) news g) (T : TopH mean mg mb h₀) (hk : cs.kind = .function)
    (hd : dp + 3 < recursionLimit) (hu : un + 24 < cLine)
    (ret : ∀ vs' h' tk', IntsAre vs' (zs (insN ks x)) → Fr h₀ L h' m → News h₀ L h' (g (listOf vs'.toArray (c + 1))) → Q .none { s with heap := h', toks := tk' }) :
    wpAny (model prg w) (ktrTop dp un gd cn cs L ad ccd cls outer) (call (.ref 95) [.ref l, .int (x : Int) tx]) Q E s := by
  refine insort_upd hi (by rw [List.length_map]; exact hlen) (zs_sorted hs) (x : Int) tx B F X N U T hk hd hu fun vs' h' tk' hI => ret vs' h' tk' ?_
  have e : ins (zs ks) (x : Int) = ins' (zs ks) (x : Int) (clN ks x) := by unfold ins ins'; rw [cl_zs]; rfl
  rw [e, ins_zs] at hI
  exact hI
theorem rulesW14_0 : True := by
  k_with "call ref" => (k_here; (with_reducible show wpAny _ _ (call (Value.ref 104) [Value.ref _, Value.int _ _]) _ _ _); k_dflt (refine' Tells.use ?k1 ?k2 ?k3 ?k4 ?k5 ?kK (bisect_leftN ?hi ?hl ?hs _ _) ?kn ?kd ?ku ?_); (case k1 => k_asm); (case k2 => k_asm); (case k3 => k_asm); (case k4 => k_asm); (case k5 => k_asm); (case kK => exact rfl); (case kn => exact need1 (by k_mem)); (case hi => assumption); (case hl => assumption); (case hs => assumption); (case kd => ktr_room); (case ku => ktr_units); intro v' h' tk' hR F' N'; obtain ⟨t', hE'⟩ := hR; subst hE'; (try dsimp only))
  k_with "call ref" => (k_here; (with_reducible show wpAny _ _ (call (Value.ref 95) [Value.ref _, Value.int _ _]) _ _ _); k_dflt (refine' insort_updN ?hi ?hl ?hs _ _ ?k1 ?k2 ?k3 ?k4 ?kU ?k5 ?kK ?kd ?ku ?_); (case k1 => k_asm); (case k2 => k_asm); (case k3 => k_asm); (case k4 => k_asm); (case k5 => k_asm); (case kK => exact rfl); (case kU => k_updF); (case hi => assumption); (case hl => assumption); (case hs => assumption); (case kd => ktr_room); (case ku => ktr_units); intro v' h' tk' hR F' N'; (try dsimp only at N'))
  exact True.intro
set_option maxRecDepth 100000 in
set_option maxHeartbeats 8000000 in
theorem seg2 {w : World} {mean : ExcName → Option Value} {mg mb : Str → Option Value} {dp un : Nat} {gd : Option (List Code)} {L fa : Addr} {ccd : Value} {outer : List Env} {A₀ : Around} {base h₀ : Heap} {m : Str → Option Value} {s : Shared} {Q : Flow → Shared → Prop} {E : Value → Shared → Prop}
    {lk ld ls : Addr} {vd : List Value} {ds : List Nat} {cd : Nat} {ox of op : Obj} {vx : Option Value}
    (B : Below A₀ base outer h₀) (F : Fr h₀ L s.heap m) (X : (KK w).In h₀) (N : News h₀ L s.heap (ledK L lk ld [] vd 0 cd ox of op)) (T : TopH mean mg mb h₀) (hd : dp + 16 < recursionLimit) (hu : un + 128 < cLine)
    (hm1 : m (Str.ofString "keys") = some (.ref lk)) (hm2 : m (Str.ofString "drawn") = some (.ref ld)) (hm3 : m (Str.ofString "script") = some (.ref ls)) (hi : IntsAre vd (zs ds)) (hdl : ds.length ≤ 7) (hox : ox.data = .cell vx)
    (hne : @Ne Nat lk ld ∧ @Ne Nat lk (L + 1 + 1 + 1) ∧ @Ne Nat lk (L + 1 + 1) ∧ @Ne Nat lk (L + 1) ∧ @Ne Nat ld (L + 1 + 1 + 1) ∧ @Ne Nat ld (L + 1 + 1) ∧ @Ne Nat ld (L + 1))
    (next : ∀ h' tk' m' vk ks ck ox', Fr h₀ L h' m' → News h₀ L h' (ledK L lk ld vk vd ck cd ox' of op) → IntsAre vk (zs ks) → KeysOf ds ks → (∃ v, ox'.data = .cell v) → m' (Str.ofString "keys") = some (.ref lk) → m' (Str.ofString "drawn") = some (.ref ld) → m' (Str.ofString "script") = some (.ref ls) → Q .next { s with heap := h', toks := tk' })
    (hE : PassesOwn (model prg w) (lawA dp un gd L fa ccd outer) (lawEnv L fa ccd) E) :
    wpAny (model prg w) (lawA dp un gd L fa ccd outer) (exec (lawStmt 2) (lawEnv L fa ccd)) Q E s := by
  revert X T
  unfold prg KK TopH
  k_fill
  intro X T
  conv => enter [3, 1]; whnf
  refine For_list (h₀ := h₀) (m := m) (news := ledK L lk ld [] vd 0 cd ox of op) (l := ld) (vs := vd) (nn := cd) rfl [lk, ld, L + 1 + 1 + 1, L + 1 + 1, L + 1]
    (fun i m' nx => ∃ vk ks ck ox', nx = ledK L lk ld vk vd ck cd ox' of op ∧ IntsAre vk (zs ks) ∧ KeysOf (ds.take i) ks ∧ (∃ v, ox'.data = .cell v) ∧ m' (Str.ofString "keys") = some (.ref lk) ∧ m' (Str.ofString "drawn") = some (.ref ld) ∧ m' (Str.ofString "script") = some (.ref ls))
    ?hadr ?hl ?he ?h0 ?step ?done ?hs ?ht hE
  case hs => intro _; rfl
  case ht => intro _ _; rfl
  case hadr => rintro i m' nx ⟨vk, ks, ck, ox', rfl, _⟩; rfl
  case hl => rintro i m' nx ⟨vk, ks, ck, ox', rfl, _⟩; exact .tail _ (.head _)
  case h0 => exact ⟨[], [], 0, ox, rfl, .nil, ⟨.nil, fun z => Iff.rfl, Nat.zero_le _⟩, ⟨_, hox⟩, hm1, hm2, hm3⟩
  case done =>
    rintro h' tk m' nx ⟨vk, ks, ck, ox', rfl, h1, h2, h3, h4, h5, h6⟩ F' N'
    have hl : vd.length = ds.length := by have := hi.length; rw [List.length_map] at this; exact this
    rw [hl, List.take_length] at h2
    exact next h' tk m' vk ks ck ox' F' N' h1 h2 h3 h4 h5 h6
  case he =>
    intro Q' hQ'
    have F1 := fr_know F [(Str.ofString "drawn", .ref ld)] (by simpa using hm2)
    dsimp only [kstB] at F1
    k_steps
    exact hQ' _ _ F (by assumption)
  case step =>
    rintro i v m₁ nx h tk ⟨it1, it2⟩ hv ⟨vk, ks, ck, ox', rfl, h1, h2, ⟨v0, h3⟩, h4, h5, h6⟩ hit F1 N1
    obtain ⟨d, t, rfl, hd0⟩ := hi.at i v hv
    obtain ⟨d, rfl, hd1⟩ : ∃ d' : Nat, d = (d' : Int) ∧ ds[i]? = some d' := by
      rw [List.getElem?_map] at hd0
      cases hq : ds[i]? with
      | none => rw [hq] at hd0; cases hd0
      | some d' => rw [hq] at hd0; exact ⟨d', (Option.some.inj hd0).symm, rfl⟩
    have F2 := fr_know F1 [(Str.ofString "keys", .ref lk)] (by simpa using h4)
    dsimp only [kstB] at F2
    clear F1
    have hks := h2.1
    have hkl : ks.length ≤ 64 := by
      have := h2.2.2
      rw [List.length_take] at this
      omega
    simp only [List.forall_mem_cons, List.not_mem_nil, false_implies, implies_true, and_true] at hit
    obtain ⟨i1, i2, i3, i4, i5⟩ := hit
    obtain ⟨n1, n2, n3, n4, n5, n6, n7⟩ := hne
    change @Ne Addr _ _ at n1 n2 n3 n4 n5 n6 n7
    k_steps
    all_goals first
      | (have hmem := (place_slice hks d).mp (by assumption)
         rw [take_snoc hd1]
         apply AnyPost.next (ledK L lk ld vk vd ck cd _ of op)
         assumption
         assumption
         (intro p hp; repeat (first | exact hp | refine List.mem_cons_of_mem _ ?_))
         exact ⟨vk, ks, ck, _, rfl, h1, h2.stay hmem, ⟨_, by assumption⟩, by with_unfolding_all rfl, by with_unfolding_all exact h5, by with_unfolding_all exact h6⟩)
      | (have hmem : ¬ d ∈ ks := fun e => absurd ((place_slice hks d).mpr e) (by assumption)
         rw [take_snoc hd1]
         apply AnyPost.next (ledK L lk ld _ vd (ck + 1) cd _ of op)
         assumption
         assumption
         (intro p hp; repeat (first | exact hp | refine List.mem_cons_of_mem _ ?_))
         exact ⟨_, insN ks d, ck + 1, _, rfl, by assumption, h2.put hmem, ⟨_, by assumption⟩, by with_unfolding_all rfl, by with_unfolding_all exact h5, by with_unfolding_all exact h6⟩)
end Mine
end

theorem Mine.calmS1 : True := by
  w_top off
  k_with_none
  k_with "k_ne" => (refine neN ?_; (try dsimp only); first | with_reducible assumption | with_reducible exact Ne.symm (by assumption))
  exact True.intro
section
open PySem PySem.W PyProof.Rows PySem.Calls PySem.Spec PyProof.V
namespace Mine

def Rising (xs : Array Nat) : Prop := xs.toList.Pairwise (· < ·)

theorem Rising.lt {xs : Array Nat} (h : Rising xs) {i j : Nat} (hij : i < j) (hj : j < xs.size) : xs.getD i 0 < xs.getD j 0 := by
  have h1 := List.pairwise_iff_getElem.mp h i j (by simp; omega) (by simpa using hj) hij
  simp only [Array.getElem_toList] at h1
  simpa [Array.getD, show i < xs.size by omega, hj] using h1

theorem below_go {xs : Array Nat} (h : Rising xs) (j : Nat) : ∀ (fuel lo hi : Nat), lo ≤ hi → hi ≤ xs.size → hi - lo ≤ fuel →
    (∀ i, i < lo → xs.getD i 0 < j) → (∀ i, hi ≤ i → i < xs.size → j ≤ xs.getD i 0) →
    SetTable.below.go xs j fuel lo hi ≤ xs.size ∧ (∀ i, i < SetTable.below.go xs j fuel lo hi → xs.getD i 0 < j) ∧ (∀ i, SetTable.below.go xs j fuel lo hi ≤ i → i < xs.size → j ≤ xs.getD i 0)
  | 0, lo, hi, h1, h2, h3, h4, h5 => by
    have : lo = hi := by omega
    subst this
    unfold SetTable.below.go
    exact ⟨h2, h4, h5⟩
  | fuel + 1, lo, hi, h1, h2, h3, h4, h5 => by
    unfold SetTable.below.go
    by_cases hlt : lo < hi
    · rw [if_pos hlt]
      dsimp only
      have hm : (lo + hi) / 2 < xs.size := by omega
      have e : xs.getD ((lo + hi) / 2) j = xs.getD ((lo + hi) / 2) 0 := by simp [Array.getD, hm]
      rw [e]
      by_cases hx : xs.getD ((lo + hi) / 2) 0 < j
      · rw [if_pos hx]
        refine below_go h j fuel _ _ (by omega) h2 (by omega) (fun i hi' => ?_) h5
        by_cases hq : i = (lo + hi) / 2
        · rw [hq]; exact hx
        · exact Nat.lt_trans (h.lt (by omega) hm) hx
      · rw [if_neg hx]
        refine below_go h j fuel _ _ (by omega) (by omega) (by omega) h4 (fun i hi' hs => ?_)
        by_cases hq : i = (lo + hi) / 2
        · rw [hq]; omega
        · have := h.lt (i := (lo + hi) / 2) (j := i) (by omega) hs
          omega
    · rw [if_neg hlt]
      have : lo = hi := by omega
      subst this
      exact ⟨h2, h4, h5⟩

theorem below_spec {xs : Array Nat} (h : Rising xs) (j : Nat) :
    SetTable.below xs j ≤ xs.size ∧ (∀ i, i < SetTable.below xs j → xs.getD i 0 < j) ∧ (∀ i, SetTable.below xs j ≤ i → i < xs.size → j ≤ xs.getD i 0) := by
  unfold SetTable.below
  exact below_go h j _ _ _ (Nat.zero_le _) (Nat.le_refl _) (by omega) (fun i hi => absurd hi (Nat.not_lt_zero _)) (fun i h1 h2 => by omega)

theorem below_zero {xs : Array Nat} (h : Rising xs) : SetTable.below xs 0 = 0 := by
  obtain ⟨_, h2, _⟩ := below_spec h 0
  rcases Nat.eq_zero_or_pos (SetTable.below xs 0) with e | e
  · exact e
  · exact absurd (h2 0 e) (Nat.not_lt_zero _)

theorem below_succ {xs : Array Nat} (h : Rising xs) {i : Nat} (hi : i < xs.size) : SetTable.below xs (xs.getD i 0 + 1) = i + 1 := by
  obtain ⟨h1, h2, h3⟩ := below_spec h (xs.getD i 0 + 1)
  rcases Nat.lt_trichotomy (SetTable.below xs (xs.getD i 0 + 1)) (i + 1) with e | e | e
  · have := h3 i (by omega) hi; omega
  · exact e
  · have hs : i + 1 < xs.size := by omega
    have := h2 (i + 1) e
    have := h.lt (i := i) (j := i + 1) (by omega) hs
    omega

theorem put_rising {t : SetTable} {j : Nat} (h : Rising t.place) (hn : ∀ i, t.slot j ≠ .live i) : Rising (t.put j).1.place := by
  unfold SetTable.put
  dsimp only
  unfold Rising
  rw [SetTable.toList_insertAt]
  obtain ⟨h1, h2, h3⟩ := below_spec h j
  generalize hp : SetTable.below t.place j = p at h1 h2 h3
  have hne : t.place[p]? ≠ some j := by
    intro e
    refine hn p ?_
    unfold SetTable.slot
    dsimp only
    rw [hp, if_pos (by rw [e]; simp)]
  have hgt : ∀ i, p ≤ i → i < t.place.size → j < t.place.getD i 0 := by
    intro i hi hs
    have hpj : j < t.place.getD p 0 := by
      have h4 := h3 p (Nat.le_refl _) (by omega)
      have h5 : t.place.getD p 0 ≠ j := by
        intro e
        apply hne
        have hps : p < t.place.size := by omega
        rw [← e]; simp [Array.getD, hps]
      omega
    by_cases e : i = p
    · rw [e]; exact hpj
    · exact Nat.lt_trans hpj (h.lt (by omega) hs)
  rw [List.pairwise_append]
  refine ⟨h.sublist (List.take_sublist _ _), List.pairwise_cons.mpr ⟨?_, h.sublist (List.drop_sublist _ _)⟩, ?_⟩
  · intro x hx
    obtain ⟨k, hk, e⟩ := List.mem_iff_getElem.mp hx
    rw [List.getElem_drop] at e
    simp only [List.length_drop, Array.length_toList] at hk
    have := hgt (p + k) (by omega) (by omega)
    rw [← e]
    simpa [Array.getD, show p + k < t.place.size by omega] using this
  · intro x hx y hy
    obtain ⟨k, hk, e⟩ := List.mem_iff_getElem.mp hx
    rw [List.getElem_take] at e
    simp only [List.length_take, Array.length_toList] at hk
    have hxj : x < j := by
      have := h2 k (by omega)
      rw [← e]
      simpa [Array.getD, show k < t.place.size by omega] using this
    rcases List.mem_cons.mp hy with rfl | hy
    · exact hxj
    · obtain ⟨k', hk', e'⟩ := List.mem_iff_getElem.mp hy
      rw [List.getElem_drop] at e'
      simp only [List.length_drop, Array.length_toList] at hk'
      have := hgt (p + k') (by omega) (by omega)
      have : j < y := by
        rw [← e']
        simpa [Array.getD, show p + k' < t.place.size by omega] using this
      omega

theorem probe_go {t : SetTable} {hashAt : Nat → Int} {hh : Int} : ∀ (fuel : Nat) (p : SetTable.Probe) (j : Nat) (d : Option Nat),
    (∀ x, p.dummy = some x → ∀ i, t.slot x ≠ .live i) → SetTable.probe.go t hashAt hh fuel p = some (.empty j d) →
    (∀ i, t.slot (d.getD j) ≠ .live i)
  | 0, p, j, d, _, h => by unfold SetTable.probe.go at h; cases h
  | fuel + 1, p, j, d, hp, h => by
    have hadv : ∀ q : SetTable.Probe, (t.advance q).dummy = q.dummy := by
      intro q
      unfold SetTable.advance
      split <;> rfl
    unfold SetTable.probe.go at h
    split at h
    · rename_i e
      simp only [Option.some.injEq, SetTable.Met.empty.injEq] at h
      obtain ⟨rfl, rfl⟩ := h
      intro i
      cases hd : p.dummy with
      | none => simp [e]
      | some x => simpa using hp x hd i
    · rename_i e
      refine probe_go fuel _ j d (fun x hx i => ?_) h
      rw [hadv] at hx
      simp only [Option.some.injEq] at hx
      subst hx
      rw [e]; simp
    · split at h
      · cases h
      · refine probe_go fuel _ j d (fun x hx i => ?_) h
        rw [hadv] at hx
        exact hp x hx i

theorem freeSlot_live {t : SetTable} {h : Int} {j : Nat} {b : Bool} (e : t.freeSlot h = some (j, b)) : ∀ i, t.slot j ≠ .live i := by
  unfold SetTable.freeSlot at e
  split at e
  · rename_i j' d hp
    simp only [Option.some.injEq, Prod.mk.injEq] at e
    obtain ⟨rfl, _⟩ := e
    unfold SetTable.probe at hp
    refine probe_go _ _ _ _ (fun x hx => ?_) hp
    unfold SetTable.probeStart at hx
    cases hx
  · cases e

def TabOk (led : Bool) (t : SetTable) : Prop := t.led = led ∧ (t.plain = true → Rising t.place)

theorem standIn_ok {led : Bool} {t : SetTable} {n : Nat} (h : t.led = led) : TabOk led (t.standIn n) := ⟨h, fun e => by cases e⟩

theorem layNew_ok {led : Bool} {t : SetTable} (ht : TabOk led t) (es : Array (Int × Value)) (h : Int) (x : Value) : TabOk led (layNew t es h x).2.1 := by
  unfold layNew
  split
  · rename_i slot wd e
    dsimp only
    unfold SetTable.orStandIn
    split
    · refine ⟨ht.1, fun hp => put_rising (ht.2 hp) (freeSlot_live e)⟩
    · exact standIn_ok ht.1
  · exact standIn_ok ht.1

theorem relayAll_ok {led : Bool} {t : SetTable} (ht : TabOk led t) (es : Array (Int × Value)) (wanted : Nat) : TabOk led (relayAll t es wanted).2.1 := by
  unfold relayAll
  split
  · rename_i t' order e
    dsimp only
    split
    · unfold SetTable.relaid SetTable.laid at e
      simp only [Option.bind_eq_bind, Option.bind_eq_some_iff, Option.pure_def, Option.some.injEq, Prod.mk.injEq] at e
      obtain ⟨owner, _, rfl, _⟩ := e
      refine ⟨ht.1, fun _ => ?_⟩
      unfold Rising
      simp only [List.toList_toArray]
      rw [List.pairwise_map, List.pairwise_filterMap]
      refine List.Pairwise.imp ?_ List.pairwise_lt_range
      intro a b hab p hp q hq
      cases ha : owner.getD a none <;> simp [ha] at hp
      cases hb : owner.getD b none <;> simp [hb] at hq
      subst hp; subst hq
      exact hab
    · exact standIn_ok ht.1
  · exact standIn_ok ht.1

theorem erase_perm {α : Type} {l : List α} {i : Nat} (h : i < l.length) : (l[i] :: l.eraseIdx i).Perm l := by
  rw [List.eraseIdx_eq_take_drop_succ]
  refine (List.perm_middle (a := l[i]) (l₁ := l.take i) (l₂ := l.drop (i + 1))).symm.trans ?_
  rw [← List.drop_eq_getElem_cons h, List.take_append_drop]

theorem pick_go {α : Type} (next : Nat → Nat) : ∀ (fuel k : Nat) (left : List α) (out : Array α), left.length = fuel →
    (pickOrder.go next fuel k left out).toList.Perm (out.toList ++ left)
  | 0, k, left, out, h => by
    have : left = [] := List.length_eq_zero_iff.mp h
    subst this
    unfold pickOrder.go
    simp
  | fuel + 1, k, left, out, h => by
    unfold pickOrder.go
    have hlt : next k % left.length < left.length := Nat.mod_lt _ (by omega)
    rw [List.getElem?_eq_getElem hlt]
    dsimp only
    refine (pick_go next fuel (k + 1) _ _ (by rw [List.length_eraseIdx_of_lt hlt]; omega)).trans ?_
    rw [Array.toList_push, List.append_assoc]
    exact List.Perm.append_left _ (erase_perm hlt)

theorem pick_perm {α : Type} (next : Nat → Nat) (xs : Array α) : (pickOrder next xs).toList.Perm xs.toList := by
  unfold pickOrder
  exact (pick_go next _ _ _ _ (by simp)).trans (by simp)
end Mine
end

theorem Mine.calmS2 : True := by
  w_top off
  k_with_none
  k_with "k_ne" => (refine neN ?_; (try dsimp only); first | with_reducible assumption | with_reducible exact Ne.symm (by assumption))
  exact True.intro
section
open PySem PySem.W PyProof.Rows PySem.Calls PySem.Spec PyProof.V
set_option maxRecDepth 100000
namespace Mine

theorem entry_set_iter : entryFor table "set.__iter__" = some Builtin.«frozenset.__iter__» := entryFor_alias (id' := "frozenset.__iter__") (by kernel_rfl) rfl (by decide +kernel) (by kernel_rfl)
theorem slot_setiter_next : Slot "set_iterator" "__next__" "set_iterator.__next__" :=
  .of (owner := "set_iterator") (n := "__next__") (by rw [typeLookup_type, builtinLookup_eq_fast]; kernel_rfl) (by decide +kernel) (by decide +kernel) (by decide +kernel)
    (by first | exact .inl (by decide +kernel) | exact .inr (by decide +kernel)) (by rw [isSubtype_type]; kernel_rfl)
theorem entry_setiter_next : entryFor table "set_iterator.__next__" = some Builtin.«set_iterator.__next__» := entryFor_of_fast (by kernel_rfl)
theorem args_setiter_next (a : Value) : argsOk "set_iterator.__next__" ⟨[a], []⟩ := by unfold argsOk; kernel_rfl
theorem slot_setiter_iter : Slot "set_iterator" "__iter__" "set_iterator.__iter__" :=
  .of (owner := "set_iterator") (n := "__iter__") (by rw [typeLookup_type, builtinLookup_eq_fast]; kernel_rfl) (by decide +kernel) (by decide +kernel) (by decide +kernel)
    (by first | exact .inl (by decide +kernel) | exact .inr (by decide +kernel)) (by rw [isSubtype_type]; kernel_rfl)
theorem entry_setiter_iter : entryFor table "set_iterator.__iter__" = some Builtin.«dict_keyiterator.__iter__» := entryFor_alias (id' := "dict_keyiterator.__iter__") (by kernel_rfl) rfl (by decide +kernel) (by kernel_rfl)
theorem args_setiter_iter (a : Value) : argsOk "set_iterator.__iter__" ⟨[a], []⟩ := by unfold argsOk; kernel_rfl
theorem set_len : typeLookup (.type "set") "__len__" = pure (some (.builtin "set.__len__")) := by rw [typeLookup_type, builtinLookup_eq_fast]; kernel_rfl

section
variable {prog : Program} {w : World} {A : Around} {E : Value → Shared → Prop} {s : Shared}

theorem wpAny_choose {M : Model} {src : Source} {n : Nat} {Q : Nat → Shared → Prop} (hn : n ≠ 0) (h : ∀ i d, i < n → Q i { s with drawn := d }) : wpAny M A (choose src n) Q E s := by
  intro Γ p hΓ
  unfold choose
  rw [Sem.wp_choose]
  exact ⟨hn, h _ _ (Nat.mod_lt _ (by omega))⟩

theorem drawOrder_any {α : Type} : ∀ (n : Nat) (xs : List α) (s : Shared) (Q : List α → Shared → Prop), xs.length = n → (∀ ys d, ys.Perm xs → Q ys { s with drawn := d }) →
    wpAny (model prog w) A (drawOrder n xs) Q E s
  | 0, xs, s, Q, hl, h => by
    have : xs = [] := List.length_eq_zero_iff.mp hl
    subst this
    unfold drawOrder
    exact wpAny_pure (by have := h [] s.drawn (List.Perm.refl _); cases s; exact this)
  | n + 1, [], s, Q, hl, h => by simp at hl
  | n + 1, x :: xs, s, Q, hl, h => by
    unfold drawOrder
    refine wpAny_bind (wpAny_choose (by simp) fun i d hi => ?_)
    rw [List.getElem?_eq_getElem hi]
    dsimp only
    refine wpAny_bind (drawOrder_any n _ _ _ (by rw [List.length_eraseIdx_of_lt hi]; omega) fun ys d' hp => ?_)
    exact wpAny_pure (h _ _ ((List.Perm.cons _ hp).trans (erase_perm hi)))
end
end Mine
end

theorem Mine.calmS3 : True := by
  w_top off
  k_with_none
  k_with "k_ne" => (refine neN ?_; (try dsimp only); first | with_reducible assumption | with_reducible exact Ne.symm (by assumption))
  exact True.intro
section
open PySem PySem.W PyProof.Rows PySem.Calls PySem.Spec PyProof.V
set_option maxRecDepth 100000
namespace Mine

def byText (w : World) : Bool := w.params.followText "set-order"

def SetAt (w : World) (h : Heap) (a : Addr) (es : Array (Int × Value)) (ep : Nat) (t : SetTable) : Prop :=
  (∃ o, h.get? a = some o ∧ o.ExactSet ∧ o.data = .set es ep t) ∧ t.fits es.size = true ∧ TabOk (!byText w) t

theorem SetAt.at {w : World} {h h' : Heap} {a : Addr} {es : Array (Int × Value)} {ep : Nat} {t : SetTable} (x : SetAt w h a es ep t) (e : ∀ o, h.get? a = some o → h'.get? a = some o) : SetAt w h' a es ep t :=
  let ⟨⟨o, ho, r⟩, q⟩ := x; ⟨⟨o, e _ ho, r⟩, q⟩

def slotOf (place : Array Nat) (i : Nat) : Nat := if i = 0 then 0 else place.getD (i - 1) 0 + 1

def Way (w : World) (a : Addr) (es : Array (Int × Value)) (ep : Nat) (t : SetTable) (vs : Array Value) (i first : Nat) : Prop :=
  if byText w = true then vs = (pickOrder (w.params.setOrder a ep) es).map (·.2)
  else Rising t.place ∧ (!t.plain && decide (es.size > 1)) = false ∧ vs = es.map (·.2) ∧ first = slotOf t.place i

section
variable {prog : Program} {w : World} {A : Around} {E : Value → Shared → Prop} {s : Shared} {a : Addr} {es : Array (Int × Value)} {ep : Nat} {t : SetTable} {vs : Array Value} {i first : Nat}

theorem Way.size (y : Way w a es ep t vs i first) : vs.size = es.size := by
  unfold Way at y
  split at y
  · rw [y, Array.size_map, ← Array.length_toList, (pick_perm _ _).length_eq, Array.length_toList]
  · rw [y.2.2.1, Array.size_map]

theorem setNext_some {Q : Option (Value × Nat) → Shared → Prop} (x : SetAt w s.heap a es ep t) (y : Way w a es ep t vs i first) (hi : i < vs.size)
    (h : ∀ next, Way w a es ep t vs (i + 1) next → Q (some (vs[i], next)) s) : wpAny (model prog w) A (setNext a first i ep) Q E s := by
  obtain ⟨⟨o, ho, hex, hd⟩, hf, hl, hr⟩ := x
  have hsz := y.size
  unfold setNext
  refine wpAny_bind (wpAny_setState_of ho hd hf ?_)
  dsimp only
  refine wpAny_bind ?_
  unfold setsByText
  refine wpAny_bind (wpAny_askSetting (wpAny_pure ?_))
  show wpAny _ _ (if byText w = true then _ else _) _ _ _
  unfold Way at y h
  by_cases hb : byText w = true
  · rw [if_pos hb] at y ⊢
    simp only [hb, if_true] at h
    simp only [bne_self_eq_false, Bool.false_eq_true, if_false]
    refine wpAny_bind ?_
    unfold setWalk
    refine wpAny_bind (wpAny_setState_of ho hd hf ?_)
    dsimp only
    refine wpAny_bind ?_
    unfold setsByText
    refine wpAny_bind (wpAny_askSetting (wpAny_pure ?_))
    show wpAny _ _ (if byText w = true then _ else _) _ _ _
    rw [if_pos hb]
    refine wpAny_bind (wpAny_askSetting (wpAny_pure ?_))
    refine wpAny_pure ?_
    have h1 := h first y
    have hi' : i < (pickOrder (w.params.setOrder a ep) es).size := by rw [y, Array.size_map] at hi; exact hi
    subst y
    simp only [Array.getElem_map] at h1
    show Q (Option.map _ (pickOrder (w.params.setOrder a ep) es)[i]?) s
    rw [Array.getElem?_eq_getElem hi']
    exact h1
  · rw [if_neg hb] at y ⊢
    simp only [hb, if_false] at h
    obtain ⟨hrise, hdr, hvs, hfst⟩ := y
    show wpAny _ _ (if (!t.plain && decide (es.size > 1)) = true then _ else _) _ _ _
    rw [hdr]
    simp only [Bool.false_eq_true, if_false]
    refine wpAny_bind ?_
    have hled : t.led = true := by rw [hl]; simp [hb]
    show wpAny _ _ (if (!t.led && !es.isEmpty) = true then _ else _) _ _ _
    rw [hled]
    simp only [Bool.not_true, Bool.false_and, Bool.false_eq_true, if_false]
    refine wpAny_pure (wpAny_pure ?_)
    have hps : t.place.size = es.size := by simp only [SetTable.fits, Bool.and_eq_true, beq_iff_eq] at hf; exact hf.1
    have hie : i < es.size := by omega
    have hbel : SetTable.below t.place first = i := by
      rw [hfst]
      unfold slotOf
      by_cases h0 : i = 0
      · rw [if_pos h0, h0]; exact below_zero hrise
      · rw [if_neg h0, below_succ hrise (by omega)]; omega
    rw [hbel]
    rw [Array.getElem?_eq_getElem hie, Array.getElem?_eq_getElem (show i < t.place.size by omega)]
    have h1 := h (t.place[i] + 1) ⟨hrise, hdr, hvs, by
      unfold slotOf
      simp [Array.getD, show i < t.place.size by omega]⟩
    subst hvs
    simp only [Array.getElem_map] at h1
    exact h1

theorem setNext_none {Q : Option (Value × Nat) → Shared → Prop} (x : SetAt w s.heap a es ep t) (y : Way w a es ep t vs i first) (hi : i = vs.size)
    (h : Q none s) : wpAny (model prog w) A (setNext a first i ep) Q E s := by
  obtain ⟨⟨o, ho, hex, hd⟩, hf, hl, hr⟩ := x
  have hsz := y.size
  unfold setNext
  refine wpAny_bind (wpAny_setState_of ho hd hf ?_)
  dsimp only
  refine wpAny_bind ?_
  unfold setsByText
  refine wpAny_bind (wpAny_askSetting (wpAny_pure ?_))
  show wpAny _ _ (if byText w = true then _ else _) _ _ _
  unfold Way at y
  by_cases hb : byText w = true
  · rw [if_pos hb] at y ⊢
    simp only [bne_self_eq_false, Bool.false_eq_true, if_false]
    refine wpAny_bind ?_
    unfold setWalk
    refine wpAny_bind (wpAny_setState_of ho hd hf ?_)
    dsimp only
    refine wpAny_bind ?_
    unfold setsByText
    refine wpAny_bind (wpAny_askSetting (wpAny_pure ?_))
    show wpAny _ _ (if byText w = true then _ else _) _ _ _
    rw [if_pos hb]
    refine wpAny_bind (wpAny_askSetting (wpAny_pure ?_))
    refine wpAny_pure ?_
    have hi' : (pickOrder (w.params.setOrder a ep) es).size ≤ i := by rw [hi, y, Array.size_map]; exact Nat.le_refl _
    show Q (Option.map _ (pickOrder (w.params.setOrder a ep) es)[i]?) s
    rw [Array.getElem?_eq_none hi']
    exact h
  · rw [if_neg hb] at y ⊢
    obtain ⟨hrise, hdr, hvs, hfst⟩ := y
    show wpAny _ _ (if (!t.plain && decide (es.size > 1)) = true then _ else _) _ _ _
    rw [hdr]
    simp only [Bool.false_eq_true, if_false]
    refine wpAny_bind ?_
    have hled : t.led = true := by rw [hl]; simp [hb]
    show wpAny _ _ (if (!t.led && !es.isEmpty) = true then _ else _) _ _ _
    rw [hled]
    simp only [Bool.not_true, Bool.false_and, Bool.false_eq_true, if_false]
    refine wpAny_pure (wpAny_pure ?_)
    have hps : t.place.size = es.size := by simp only [SetTable.fits, Bool.and_eq_true, beq_iff_eq] at hf; exact hf.1
    have hbel : SetTable.below t.place first = i := by
      rw [hfst]
      unfold slotOf
      by_cases h0 : i = 0
      · rw [if_pos h0, h0]; exact below_zero hrise
      · rw [if_neg h0, below_succ hrise (by omega)]; omega
    rw [hbel]
    rw [Array.getElem?_eq_none (show es.size ≤ i by omega)]
    exact h
end
end Mine
end

theorem Mine.calmS4 : True := by
  w_top off
  k_with_none
  k_with "k_ne" => (refine neN ?_; (try dsimp only); first | with_reducible assumption | with_reducible exact Ne.symm (by assumption))
  exact True.intro
section
open PySem PySem.W PyProof.Rows PySem.Calls PySem.Spec PyProof.V
set_option maxRecDepth 100000
namespace Mine

def itObj (f : Value) (i : Nat) (a : Addr) (n ep : Nat) : Obj := { cls := .type "set_iterator", data := .fields #[f, .int i 0, .ref a, .int n 0, .int ep 0] }

section
variable {prog : Program} {w : World} {A : Around} {E : Value → Shared → Prop} {s : Shared} {I D a : Addr} {es : Array (Int × Value)} {ep : Nat} {t : SetTable} {vs : Array Value} {i first : Nat}

theorem setEntries_at {Q : Array (Int × Value) → Shared → Prop} (x : SetAt w s.heap a es ep t) (h : Q es s) : wpAny (model prog w) A (setEntries a) Q E s := by
  obtain ⟨⟨o, ho, hex, hd⟩, hf, _⟩ := x
  exact wpAny_setEntries_of ho hd hf h

theorem setNextDrawn_at {Q : Value → Shared → Prop} (x : SetAt w s.heap a es ep t) {j : Nat} (hj : j < es.size) (h : Q es[j].2 s) : wpAny (model prog w) A (setNextDrawn a j ep) Q E s := by
  obtain ⟨⟨o, ho, hex, hd⟩, hf, _⟩ := x
  unfold setNextDrawn
  refine wpAny_bind (wpAny_setState_of ho hd hf ?_)
  dsimp only
  simp only [bne_self_eq_false, Bool.false_eq_true, if_false]
  refine wpAny_bind (wpAny_pure ?_)
  rw [Array.getElem?_eq_getElem hj]
  exact wpAny_pure h

/-- where nothing is handled, StopIteration is made anew (its empty tuple, then itself) and thrown -/
theorem stops {α : Type} {Q : α → Shared → Prop} {E : Value → Shared → Prop} {s : Shared} (hh : A.handled = none)
    (thrown : ∀ e o₁ o₂, Shared.TypeIs { s with heap := (s.heap.push o₁).push o₂ } e "StopIteration" → E e { s with heap := (s.heap.push o₁).push o₂ }) :
    wpAny (model prog w) A (newExc (.type "StopIteration") [] >>= raiseNew) Q E s := by
  unfold newExc newTuple raiseNew
  refine wpAny_bind (wpAny_bind (wpAny_newObj_type (wpAny_bind (m := firstArgMember _ _) (wpAny_of_eq (a := Value.none) rfl (wpAny_newObj_type ?_)))))
  exact wpAny_bind (wpAny_handled (by rw [hh]; exact wpAny_throw (thrown _ _ _ ⟨_, Heap.get?_push_size _ rfl, rfl⟩)))

theorem pyNext_item {Q : Option Value → Shared → Prop} (x : SetAt w s.heap a es ep t) (hI : s.heap.get? I = some (itObj (.int first 0) i a es.size ep)) (y : Way w a es ep t vs i first) (hi : i < vs.size)
    (h : ∀ next h', Way w a es ep t vs (i + 1) next → h'.get? I = some (itObj (.int next 0) (i + 1) a es.size ep) → Heap.SameBut I s.heap h' → Q (some vs[i]) { s with heap := h' }) :
    wpAny (model prog w) A (pyNext (.ref I)) Q E s := by
  have hT : s.TypeIs (.ref I) "set_iterator" := ⟨_, hI, rfl⟩
  unfold pyNext
  refine wpAny_bind (wpAny_attempt (wpAny_callSpecial?_slot (name := Str.ofString "__next__") hT slot_setiter_next
    (wpAny_call_entry slot_setiter_next hT entry_setiter_next ?_ (args_setiter_next _))))
  show wpAny _ _ (fieldsOf (.ref I) >>= _) _ _ s
  refine wpAny_bind (wpAny_fieldsOf hI rfl ?_)
  show wpAny _ _ (setEntries a >>= _) _ _ s
  refine wpAny_bind (setEntries_at x ?_)
  dsimp only
  simp only [bne_self_eq_false, Bool.false_eq_true, if_false]
  show wpAny _ _ (setNext a first i ep >>= _) _ _ s
  refine wpAny_bind (setNext_some x y hi fun next y' => ?_)
  dsimp only
  refine wpAny_bind (wpAny_setField hI rfl (by simp) ?_)
  have h1 := Heap.get?_update_self (Obj.mapFields (·.setIfInBounds 0 (rawInt next))) hI rfl
  refine wpAny_bind (wpAny_setField h1 rfl (by simp) ?_)
  have h2 := Heap.get?_update_self (Obj.mapFields (·.setIfInBounds 1 (rawInt (i + 1)))) h1 rfl
  exact wpAny_pure ⟨_, rfl, wpAny_pure (h next _ y' h2 ((Heap.SameBut.update ..).trans (Heap.SameBut.update ..)))⟩

theorem pyNext_done {Q : Option Value → Shared → Prop} (hh : A.handled = none) (x : SetAt w s.heap a es ep t) (hI : s.heap.get? I = some (itObj (.int first 0) i a es.size ep)) (y : Way w a es ep t vs i first) (hi : i = vs.size)
    (h : ∀ h', Heap.ExtBut I s.heap h' → Q none { s with heap := h' }) :
    wpAny (model prog w) A (pyNext (.ref I)) Q E s := by
  have hT : s.TypeIs (.ref I) "set_iterator" := ⟨_, hI, rfl⟩
  unfold pyNext
  refine wpAny_bind (wpAny_attempt (wpAny_callSpecial?_slot (name := Str.ofString "__next__") hT slot_setiter_next
    (wpAny_call_entry slot_setiter_next hT entry_setiter_next ?_ (args_setiter_next _))))
  show wpAny _ _ (fieldsOf (.ref I) >>= _) _ _ s
  refine wpAny_bind (wpAny_fieldsOf hI rfl ?_)
  show wpAny _ _ (setEntries a >>= _) _ _ s
  refine wpAny_bind (setEntries_at x ?_)
  dsimp only
  simp only [bne_self_eq_false, Bool.false_eq_true, if_false]
  show wpAny _ _ (setNext a first i ep >>= _) _ _ s
  refine wpAny_bind (setNext_none x y hi ?_)
  dsimp only
  refine wpAny_bind (wpAny_setField hI rfl (by simp) ?_)
  refine stops hh fun e o₁ o₂ hE => wpAny_bind (wpAny_isInstance (b := true) hE isSubtype_stop ?_)
  exact wpAny_pure (h _ (((Heap.SameBut.update ..).extBut.push _).push _))

theorem pyIter_self {Q : Value → Shared → Prop} {f : Value} {n : Nat} (hI : s.heap.get? I = some (itObj f i a n ep)) (h : Q (.ref I) s) : wpAny (model prog w) A (pyIter (.ref I)) Q E s := by
  have hT : s.TypeIs (.ref I) "set_iterator" := ⟨_, hI, rfl⟩
  refine wpAny_pyIter_slot hT slot_setiter_iter (wpAny_call_entry slot_setiter_iter hT entry_setiter_iter ?_ (args_setiter_iter _))
  show wpAny _ _ (ret (.ref I)) _ _ s
  exact wpAny_pure ⟨_, rfl, "set_iterator", _, hT, slot_setiter_next.lookup, h⟩

theorem walks_plain (hh : A.handled = none) (hne : a ≠ I) (es : Array (Int × Value)) (ep : Nat) (t : SetTable) (vs : Array Value) :
    Walks prog w A I [I, a] [I] vs.size (fun i v => vs[i]? = some v) (fun i h => SetAt w h a es ep t ∧ ∃ first, h.get? I = some (itObj (.int (first : Nat) 0) i a es.size ep) ∧ Way w a es ep t vs i first) where
  sub := fun b hb => by simp at hb; simp [hb]
  frame := fun _ _ _ st hk => ⟨st.1.at fun o e => hk a (by simp) o e, let ⟨f, hf, y⟩ := st.2; ⟨f, hk I (by simp) _ hf, y⟩⟩
  item := fun i s Q E hi st hQ => by
    obtain ⟨x, f, hf, y⟩ := st
    refine pyNext_item x hf y hi fun next h' y' hI' hs' => ?_
    exact hQ _ h' s.toks (by simp [hi]) ⟨x.at fun o e => hs'.extBut a o hne e, next, hI', y'⟩ fun b o hb e => hs'.extBut b o (fun h => hb (by simp [h])) e
  done := fun s Q E st hQ => by
    obtain ⟨x, f, hf, y⟩ := st
    exact pyNext_done hh x hf y rfl fun h' he' => hQ h' s.toks fun b o hb e => he' b o (fun h => hb (by simp [h])) e
  self := fun _ _ _ _ st hQ => by
    obtain ⟨x, f, hf, y⟩ := st
    exact pyIter_self hf hQ

/-! the drawn way -/
def Draw (es : Array (Int × Value)) (vs : Array Value) (pl : List Nat) : Prop := (∀ i ∈ pl, i < es.size) ∧ vs.toList = pl.map (fun i => (es[i]?.map (·.2)).getD .none)

theorem pyNextD_item {Q : Option Value → Shared → Prop} {pl : List Nat} (x : SetAt w s.heap a es ep t) (hI : s.heap.get? I = some (itObj (.ref D) i a es.size ep)) (hD : s.heap.get? D = some (seqObj "tuple" (pl.map fun i : Nat => rawInt i).toArray 0))
    (y : Draw es vs pl) (hi : i < vs.size)
    (h : ∀ h', h'.get? I = some (itObj (.ref D) (i + 1) a es.size ep) → Heap.SameBut I s.heap h' → Q (some vs[i]) { s with heap := h' }) :
    wpAny (model prog w) A (pyNext (.ref I)) Q E s := by
  have hT : s.TypeIs (.ref I) "set_iterator" := ⟨_, hI, rfl⟩
  have hlen : vs.size = pl.length := by rw [← Array.length_toList, y.2, List.length_map]
  have hip : i < pl.length := by omega
  have hj : pl[i] < es.size := y.1 _ (List.getElem_mem hip)
  have hv : vs[i] = es[pl[i]].2 := by
    have h1 : vs.toList[i]? = some vs[i] := by rw [Array.getElem?_toList, Array.getElem?_eq_getElem hi]
    rw [y.2, List.getElem?_map, List.getElem?_eq_getElem hip] at h1
    simp only [Option.map_some, Option.some.injEq] at h1
    rw [← h1, Array.getElem?_eq_getElem hj]; rfl
  unfold pyNext
  refine wpAny_bind (wpAny_attempt (wpAny_callSpecial?_slot (name := Str.ofString "__next__") hT slot_setiter_next
    (wpAny_call_entry slot_setiter_next hT entry_setiter_next ?_ (args_setiter_next _))))
  show wpAny _ _ (fieldsOf (.ref I) >>= _) _ _ s
  refine wpAny_bind (wpAny_fieldsOf hI rfl ?_)
  show wpAny _ _ (setEntries a >>= _) _ _ s
  refine wpAny_bind (setEntries_at x ?_)
  dsimp only
  simp only [bne_self_eq_false, Bool.false_eq_true, if_false]
  show wpAny _ _ (seqItems? (.ref D) >>= _) _ _ s
  refine wpAny_bind (wpAny_seqItems hD rfl ?_)
  dsimp only
  simp only [Int.toNat_natCast, List.getElem?_toArray, List.getElem?_map, List.getElem?_eq_getElem hip, Option.map_some, rawInt]
  refine wpAny_bind (setNextDrawn_at x hj ?_)
  refine wpAny_bind (wpAny_setField hI rfl (by simp) ?_)
  have h2 := Heap.get?_update_self (Obj.mapFields (·.setIfInBounds 1 (rawInt (i + 1)))) hI rfl
  refine wpAny_pure ⟨_, rfl, wpAny_pure ?_⟩
  rw [← hv]
  exact h _ h2 (Heap.SameBut.update ..)

theorem pyNextD_done {Q : Option Value → Shared → Prop} {pl : List Nat} (hh : A.handled = none) (x : SetAt w s.heap a es ep t) (hI : s.heap.get? I = some (itObj (.ref D) i a es.size ep)) (hD : s.heap.get? D = some (seqObj "tuple" (pl.map fun i : Nat => rawInt i).toArray 0))
    (y : Draw es vs pl) (hi : i = vs.size)
    (h : ∀ h', Heap.ExtBut I s.heap h' → Q none { s with heap := h' }) :
    wpAny (model prog w) A (pyNext (.ref I)) Q E s := by
  have hT : s.TypeIs (.ref I) "set_iterator" := ⟨_, hI, rfl⟩
  have hlen : vs.size = pl.length := by rw [← Array.length_toList, y.2, List.length_map]
  have hip : pl.length ≤ i := by omega
  unfold pyNext
  refine wpAny_bind (wpAny_attempt (wpAny_callSpecial?_slot (name := Str.ofString "__next__") hT slot_setiter_next
    (wpAny_call_entry slot_setiter_next hT entry_setiter_next ?_ (args_setiter_next _))))
  show wpAny _ _ (fieldsOf (.ref I) >>= _) _ _ s
  refine wpAny_bind (wpAny_fieldsOf hI rfl ?_)
  show wpAny _ _ (setEntries a >>= _) _ _ s
  refine wpAny_bind (setEntries_at x ?_)
  dsimp only
  simp only [bne_self_eq_false, Bool.false_eq_true, if_false]
  show wpAny _ _ (seqItems? (.ref D) >>= _) _ _ s
  refine wpAny_bind (wpAny_seqItems hD rfl ?_)
  dsimp only
  simp only [Int.toNat_natCast, List.getElem?_toArray, List.getElem?_map, List.getElem?_eq_none hip, Option.map_none]
  refine wpAny_bind (wpAny_setField hI rfl (by simp) ?_)
  have h1 := Heap.get?_update_self (Obj.mapFields (·.setIfInBounds 0 (rawInt 0))) hI rfl
  refine wpAny_bind (wpAny_setField h1 rfl (by simp) ?_)
  refine stops hh fun e o₁ o₂ hE => wpAny_bind (wpAny_isInstance (b := true) hE isSubtype_stop ?_)
  exact wpAny_pure (h _ ((((Heap.SameBut.update ..).trans (Heap.SameBut.update ..)).extBut.push _).push _))

theorem walks_drawn (hh : A.handled = none) (hne : a ≠ I) (hneD : D ≠ I) (es : Array (Int × Value)) (ep : Nat) (t : SetTable) (vs : Array Value) (pl : List Nat) (y : Draw es vs pl) :
    Walks prog w A I [I, a, D] [I] vs.size (fun i v => vs[i]? = some v) (fun i h => SetAt w h a es ep t ∧ h.get? I = some (itObj (.ref D) i a es.size ep) ∧ h.get? D = some (seqObj "tuple" (pl.map fun i : Nat => rawInt i).toArray 0)) where
  sub := fun b hb => by simp at hb; simp [hb]
  frame := fun _ _ _ st hk => ⟨st.1.at fun o e => hk a (by simp) o e, hk I (by simp) _ st.2.1, hk D (by simp) _ st.2.2⟩
  item := fun i s Q E hi st hQ => by
    obtain ⟨x, hf, hD⟩ := st
    refine pyNextD_item x hf hD y hi fun h' hI' hs' => ?_
    exact hQ _ h' s.toks (by simp [hi]) ⟨x.at fun o e => hs'.extBut a o hne e, hI', hs'.extBut D _ hneD hD⟩ fun b o hb e => hs'.extBut b o (fun h => hb (by simp [h])) e
  done := fun s Q E st hQ => by
    obtain ⟨x, hf, hD⟩ := st
    exact pyNextD_done hh x hf hD y rfl fun h' he' => hQ h' s.toks fun b o hb e => he' b o (fun h => hb (by simp [h])) e
  self := fun _ _ _ _ st hQ => by
    obtain ⟨x, hf, hD⟩ := st
    exact pyIter_self hf hQ
end
end Mine
end

theorem Mine.calmS5 : True := by
  w_top off
  k_with_none
  k_with "k_ne" => (refine neN ?_; (try dsimp only); first | with_reducible assumption | with_reducible exact Ne.symm (by assumption))
  exact True.intro
section
open PySem PySem.W PyProof.Rows PySem.Calls PySem.Spec PyProof.V
set_option maxRecDepth 100000
namespace Mine

structure ItOf (prog : Program) (w : World) (a : Addr) (vs : Array Value) (I : Addr) (fp : List Addr) (St : Nat → Shared → Prop) : Prop where
  walks : ∀ A : Around, A.handled = none → WalksS prog w A I fp [I] (fun x y => y = x) vs.size (fun i v => vs[i]? = some v) St
  typ : ∀ i s, St i s → s.TypeIs (.ref I) "set_iterator"
  mem : I ∈ fp

section
variable {prog : Program} {w : World} {A : Around} {E : Value → Shared → Prop} {s : Shared} {a : Addr} {es : Array (Int × Value)} {ep : Nat} {t : SetTable}

theorem way0 (x : SetAt w s.heap a es ep t) (hd : (!byText w && (!t.plain && decide (es.size > 1))) = false) :
    Way w a es ep t (if byText w = true then (pickOrder (w.params.setOrder a ep) es).map (·.2) else es.map (·.2)) 0 0 := by
  unfold Way
  by_cases hb : byText w = true
  · simp [hb]
  · have hbf : byText w = false := by simpa using hb
    obtain ⟨_, hf, hl, hr⟩ := x
    rw [hbf] at hd
    simp only [Bool.not_false, Bool.true_and] at hd
    simp only [hbf, Bool.false_eq_true, if_false]
    refine ⟨?_, hd, trivial, rfl⟩
    by_cases hp : t.plain = true
    · exact hr hp
    · have hp' : t.plain = false := by simpa using hp
      rw [hp'] at hd
      simp only [Bool.not_false, Bool.true_and, decide_eq_false_iff_not] at hd
      have hps : t.place.size = es.size := by simp only [SetTable.fits, Bool.and_eq_true, beq_iff_eq] at hf; exact hf.1
      unfold Rising
      have hlen : t.place.toList.length ≤ 1 := by rw [Array.length_toList]; omega
      generalize t.place.toList = l at hlen
      match l, hlen with
      | [], _ => exact List.Pairwise.nil
      | [x], _ => simp

theorem pyIter_set {Q : Value → Shared → Prop} (x : SetAt w s.heap a es ep t) (hes : es.size < scanBound)
    (h : ∀ I fp St (vs : Array Value) h' d, ItOf prog w a vs I fp St → St 0 { s with heap := h', drawn := d } → vs.toList.Perm (es.toList.map (·.2)) →
      (∀ b ∈ fp, b < h'.objs.size) → (∀ b ∈ fp, b = a ∨ s.heap.objs.size ≤ b) → (∀ b o, s.heap.get? b = some o → h'.get? b = some o) →
      s.heap.objs.size ≤ h'.objs.size → s.heap.objs.size ≤ I → Q (.ref I) { s with heap := h', drawn := d }) :
    wpAny (model prog w) A (pyIter (.ref a)) Q E s := by
  obtain ⟨⟨o, ho, hex, hd⟩, hf, htab⟩ := id x
  have ha : a < s.heap.objs.size := Heap.lt_size ho
  have hT : s.TypeIs (.ref a) "set" := ⟨_, ho, hex.1⟩
  refine wpAny_pyIter_slot hT F.slot_set_iter (wpAny_call_entry F.slot_set_iter hT entry_set_iter ?_ (F.args_set_iter_1 _))
  show wpAny _ _ (Builtin.Frozenset.sizeOf a >>= _) _ _ s
  unfold Builtin.Frozenset.sizeOf
  refine wpAny_bind (wpAny_bind (setEntries_at x (wpAny_pure ?_)))
  refine wpAny_bind ?_
  unfold setDrawn
  refine wpAny_bind (wpAny_setState_of ho hd hf ?_)
  dsimp only
  refine wpAny_bind ?_
  unfold setsByText
  refine wpAny_bind (wpAny_askSetting (wpAny_pure ?_))
  refine wpAny_pure ?_
  show wpAny _ _ (if (!byText w && (!t.plain && decide (es.size > 1))) = true then _ else _) _ _ _
  have hsub1 : s.heap.objs.size ≤ (s.heap.push (itObj (.int 0 0) 0 a es.size ep)).objs.size := by rw [size_push']; omega
  cases hdr : (!byText w && (!t.plain && decide (es.size > 1))) with
  | false =>
    simp only [Bool.false_eq_true, if_false]
    refine wpAny_bind (wpAny_pure ?_)
    refine wpAny_bind (wpAny_setEpoch_of ho hd hf ?_)
    refine wpAny_bind (wpAny_newObj_type (wpAny_pure ⟨_, rfl, "set_iterator", _, ⟨_, Heap.get?_push_size _ rfl, rfl⟩, slot_setiter_next.lookup, ?_⟩))
    have hne : a ≠ s.heap.objs.size := Nat.ne_of_lt ha
    refine h s.heap.objs.size [s.heap.objs.size, a] _ _ _ s.drawn ⟨fun A' hh' => (walks_plain (prog := prog) (w := w) hh' hne es ep t (if byText w = true then (pickOrder (w.params.setOrder a ep) es).map (·.2) else es.map (·.2))).toS, fun i s' st => ?_, by simp⟩ ?_ ?_ ?_ ?_ (fun b o e => Heap.get?_push_of_some _ e) hsub1 (Nat.le_refl _)
    · obtain ⟨_, f, hf, _⟩ := st
      exact ⟨_, hf, rfl⟩
    · exact ⟨x.at fun o e => Heap.get?_push_of_some _ e, 0, Heap.get?_push_size _ rfl, way0 x hdr⟩
    · by_cases hb : byText w = true
      · rw [if_pos hb, Array.toList_map]; exact (pick_perm _ _).map _
      · rw [if_neg hb, Array.toList_map]
    · intro b hb
      show b < (s.heap.push (itObj (.int 0 0) 0 a es.size ep)).objs.size
      rw [size_push']
      simp only [List.mem_cons, List.not_mem_nil, or_false] at hb
      rcases hb with h1 | h1
      · rw [h1]; exact Nat.lt_succ_self _
      · rw [h1]; exact Nat.lt_succ_of_lt ha
    · intro b hb
      simp only [List.mem_cons, List.not_mem_nil, or_false] at hb
      rcases hb with rfl | rfl
      · exact .inr (Nat.le_refl _)
      · exact .inl rfl
  | true =>
    simp only [if_true]
    refine wpAny_bind (drawOrder_any es.size (List.range es.size) _ _ (by simp) fun pl d hp => ?_)
    refine wpAny_bind (wpAny_newTuple ?_ (by rw [List.length_map, hp.length_eq, List.length_range]; exact fits_of_scanBound hes))
    have ho1 : (s.heap.push (seqObj "tuple" (pl.map fun i : Nat => rawInt i).toArray 0)).get? a = some o := Heap.get?_push_of_some _ ho
    refine wpAny_bind (wpAny_setEpoch_of ho1 hd hf ?_)
    refine wpAny_bind (wpAny_newObj_type (wpAny_pure ⟨_, rfl, "set_iterator", _, ⟨_, Heap.get?_push_size _ rfl, rfl⟩, slot_setiter_next.lookup, ?_⟩))
    have hsz : (s.heap.push (seqObj "tuple" (pl.map fun i : Nat => rawInt i).toArray 0)).objs.size = s.heap.objs.size + 1 := size_push' _ _
    have hIv : ∀ (f : Value) (st : Addr), (s.heap.push (seqObj "tuple" (pl.map fun i : Nat => rawInt i).toArray 0)).objs.size = st → st = s.heap.objs.size + 1 := fun _ _ e => e ▸ hsz
    have hne : a ≠ s.heap.objs.size + 1 := Nat.ne_of_lt (Nat.lt_succ_of_lt ha)
    have hneD : s.heap.objs.size ≠ s.heap.objs.size + 1 := Nat.ne_of_lt (Nat.lt_succ_self _)
    have hlt : ∀ i ∈ pl, i < es.size := fun i hi => by simpa using hp.mem_iff.mp hi
    have hdraw : Draw es (pl.map (fun i => (es[i]?.map (·.2)).getD Value.none)).toArray pl := ⟨hlt, by simp⟩
    have hk : ∀ b o, s.heap.get? b = some o → ((s.heap.push (seqObj "tuple" (pl.map fun i : Nat => rawInt i).toArray 0)).push (itObj (.ref s.heap.objs.size) 0 a es.size ep)).get? b = some o :=
      fun b o e => Heap.get?_push_of_some _ (Heap.get?_push_of_some _ e)
    have hIg : ((s.heap.push (seqObj "tuple" (pl.map fun i : Nat => rawInt i).toArray 0)).push (itObj (.ref s.heap.objs.size) 0 a es.size ep)).get? (s.heap.objs.size + 1) = some (itObj (.ref s.heap.objs.size) 0 a es.size ep) := by
      rw [← hsz]; exact Heap.get?_push_size _ rfl
    have hsz2 : ((s.heap.push (seqObj "tuple" (pl.map fun i : Nat => rawInt i).toArray 0)).push (itObj (.ref s.heap.objs.size) 0 a es.size ep)).objs.size = s.heap.objs.size + 2 := by rw [size_push', hsz]
    have := h (s.heap.objs.size + 1) [s.heap.objs.size + 1, a, s.heap.objs.size] _ _ _ d ⟨fun A' hh' => (walks_drawn (prog := prog) (w := w) hh' hne hneD es ep t _ pl hdraw).toS, fun i s' st => ⟨_, st.2.1, rfl⟩, by simp⟩
      (show SetAt w ((s.heap.push (seqObj "tuple" (pl.map fun i : Nat => rawInt i).toArray 0)).push (itObj (.ref s.heap.objs.size) 0 a es.size ep)) a es ep t ∧ _ ∧ _ from
        ⟨x.at fun o e => hk _ _ e, hIg, Heap.get?_push_of_some _ (Heap.get?_push_size _ rfl)⟩) ?_ ?_ ?_ hk ?_ (Nat.le_succ _)
    · show Q (.ref (s.heap.push (seqObj "tuple" (pl.map fun i : Nat => rawInt i).toArray 0)).objs.size) _
      rw [hsz]
      exact this
    · simp only [List.toList_toArray]
      refine (hp.map _).trans ?_
      have e : (List.range es.size).map (fun i => (es[i]?.map (·.2)).getD Value.none) = es.toList.map (·.2) := by
        apply List.ext_getElem
        · simp
        · intro i h1 h2
          simp only [List.getElem_map, List.getElem_range, Array.getElem_toList]
          simp only [List.length_map, List.length_range] at h1
          rw [Array.getElem?_eq_getElem h1]; rfl
      rw [e]
    · intro b hb
      refine Nat.lt_of_lt_of_eq ?_ hsz2.symm
      simp only [List.mem_cons, List.not_mem_nil, or_false] at hb
      rcases hb with h1 | h1 | h1
      · rw [h1]; exact Nat.lt_succ_self _
      · rw [h1]; exact Nat.lt_succ_of_lt (Nat.lt_succ_of_lt ha)
      · rw [h1]; exact Nat.lt_succ_of_lt (Nat.lt_succ_self _)
    · intro b hb
      simp only [List.mem_cons, List.not_mem_nil, or_false] at hb
      rcases hb with h1 | h1 | h1
      · exact .inr (by rw [h1]; exact Nat.le_succ _)
      · exact .inl h1
      · exact .inr (by rw [h1]; exact Nat.le_refl _)
    · exact Nat.le_of_lt (Nat.lt_of_lt_of_eq (Nat.lt_succ_of_lt (Nat.lt_succ_self _)) hsz2.symm)
end
end Mine
end

theorem Mine.calmS6 : True := by
  w_top off
  k_with_none
  k_with "k_ne" => (refine neN ?_; (try dsimp only); first | with_reducible assumption | with_reducible exact Ne.symm (by assumption))
  exact True.intro
section
open PySem PySem.W PyProof.Rows PySem.Calls PySem.Spec PyProof.V
set_option maxRecDepth 100000
namespace Mine

theorem items_are {vs acc : Array Value} (h : ItemsOf (fun i v => vs[i]? = some v) acc vs.size) : acc = vs :=
  Array.ext h.1 fun i h1 h2 => by
    have e := h.2 i acc[i] (Array.getElem?_eq_getElem h1)
    exact Option.some.inj (e.symm.trans (Array.getElem?_eq_getElem h2))

theorem moved_same {wr : List Addr} {s s' : Shared} (m : Moved wr (fun a b => b = a) s s') : s' = { s with heap := s'.heap, toks := s'.toks } := by
  obtain ⟨h, g, d, t, o⟩ := s'
  obtain ⟨-, rfl, rfl, rfl, -⟩ := m
  rfl

section
variable {prog : Program} {w : World} {A : Around} {E : Value → Shared → Prop} {s : Shared} {S a : Addr} {es : Array (Int × Value)} {ep : Nat} {t : SetTable}

/-- an empty list is given room and loses it again -/
theorem touched {c : Nat} {Q : Unit → Shared → Prop} (hS : s.heap.get? S = some (seqObj "list" #[] c))
    (next : ∀ h' c', h'.get? S = some (seqObj "list" #[] c') → Heap.SameBut S s.heap h' → Q () { s with heap := h' }) :
    wpAny (model prog w) A (Builtin.List.listTouch (.ref S)) Q E s := by
  have hP := get?_update_seq hS (·.push Value.none)
  refine wpAny_bind (m := updateSeq S (·.push Value.none)) (wpAny_updateSeq hS rfl (wpAny_updateSeq hP rfl ?_))
  exact next _ _ (get?_update_seq hP (·.pop)) ((Heap.SameBut.update ..).trans (Heap.SameBut.update ..))

/-- a set tells its length, but the list asks no room for it ahead -/
theorem hint_set {Q : Bool → Shared → Prop} (hT : s.TypeIs (.ref a) "set") (next : Q false s) : wpAny (model prog w) A (Builtin.List.listLengthHint (.ref a)) Q E s := by
  refine wpAny_bind (m := specialOf _ _) (wpAny_specialOf hT set_len ?_)
  have own : splitId "set.__len__" = some ("set", "__len__") := by decide +kernel
  dsimp only
  rw [own]
  refine wpAny_bind (m := isInstance _ _) (wpAny_isInstance (b := true) hT sub_set_self ?_)
  exact wpAny_bind (m := typeOf _) (wpAny_typeOf hT (wpAny_pure next))

theorem extend_set {res : Value} {c : Nat} {R : Result → Shared → Prop} (hh : A.handled = none) (x : SetAt w s.heap a es ep t) (hes : es.size < scanBound) (hS : s.heap.get? S = some (seqObj "list" #[] c)) (hSa : S ≠ a)
    (next : ∀ (vs : Array Value) h' tk d c', vs.toList.Perm (es.toList.map (·.2)) → h'.get? S = some (seqObj "list" vs c') → (∀ b, b ≠ S → ∀ o, s.heap.get? b = some o → h'.get? b = some o) → R (.ok (.ret res)) { s with heap := h', toks := tk, drawn := d }) :
    wpAny (model prog w) A.in1 (Builtin.List.listExtendWith (.ref S) (.ref a) res)
      (fun fin s' => match fin with | .done f => R (.ok f) s' | .again c' => c'.quiet = true ∧ codeAny (model prog w) A c' R s') (fun e s' => R (.error e) s') s := by
  have hT : ∀ s' : Shared, SetAt w s'.heap a es ep t → s'.TypeIs (.ref a) "set" := fun s' y => let ⟨⟨o, ho, hex, _⟩, _⟩ := y; ⟨o, ho, hex.1⟩
  refine wpAny_bind (m := typeOf (.ref a)) (wpAny_typeOf (hT s x) ?_)
  rw [show Builtin.List.listSameRef (.ref S) (.ref a) = false from beq_eq_false_iff_ne.mpr hSa]
  refine wpAny_bind (m := pyIter (.ref a)) (pyIter_set x hes fun I fp St vs h1 d it st hp hlt hin keep hle hge => ?_)
  have hS1 : h1.get? S = some (seqObj "list" #[] c) := keep S _ hS
  have hSfp : S ∉ fp := fun h => (hin S h).elim hSa (Nat.not_le.mpr (Heap.lt_size hS))
  refine wpAny_bind (m := holding _ _) (wpAny_holding (hint_set (s := { s with heap := h1, drawn := d }) (hT _ (x.at fun o => keep a o)) ?_))
  refine wpAny_bind (m := rule _) (wpAny_rule (wpAny_bind (m := Builtin.List.listTouch _) (touched (s := { s with heap := h1, drawn := d }) hS1 fun h2 c2 hS2 same => ?_)))
  have hn : vs.size = es.size := by simpa using hp.length_eq
  have old2 : ∀ b, b ≠ S → ∀ o, h1.get? b = some o → h2.get? b = some o := fun b hb o e => (same.2 b hb).trans e
  refine wpAny_pure ⟨plainId_quiet F.plain_extend_loop _, codeAny_extend_loopS (it.walks A.in1 (by simp [hh])) (hn ▸ fits_of_scanBound hes) S hSfp res vs.size 0 _ _ _ rfl (Nat.zero_le _)
    ((it.walks A.in1 (by simp [hh])).frame 0 { s with heap := h1, drawn := d } h2 s.toks st (Nat.le_refl _) fun b hb => old2 b fun e => hSfp (e ▸ hb)) hS2 (ItemsOf.nil _) fun s' acc c' m hS' items => ?_⟩
  obtain rfl := items_are items
  rw [moved_same m]
  refine next acc _ _ _ c' hp hS' fun b hbS o e => m.heap b o (fun hb => ?_) (old2 b hbS o (keep b o e))
  rcases List.mem_cons.mp hb with e' | hb
  · exact hbS e'
  · exact absurd (Heap.lt_size e) (Nat.not_lt.mpr (List.mem_singleton.mp hb ▸ hge))

theorem collect_set {Q : List Value → Shared → Prop} (hh : A.handled = none) (x : SetAt w s.heap a es ep t) (hes : es.size < scanBound)
    (next : ∀ (vs : List Value) h' tk d, vs.Perm (es.toList.map (·.2)) → (∀ b o, s.heap.get? b = some o → h'.get? b = some o) → s.heap.objs.size ≤ h'.objs.size → Q vs { s with heap := h', toks := tk, drawn := d }) :
    wpAny (model prog w) A (collect (.ref a)) Q E s := by
  have ha : a < s.heap.objs.size := let ⟨⟨_, ho, _⟩, _⟩ := x; Heap.lt_size ho
  have made : ∀ R : Result → Shared → Prop, (∀ (vs : Array Value) h' tk d c', vs.toList.Perm (es.toList.map (·.2)) → h'.get? s.heap.objs.size = some (seqObj "list" vs c') → (∀ b o, s.heap.get? b = some o → h'.get? b = some o) →
      R (.ok (.ret (.ref s.heap.objs.size))) { s with heap := h', toks := tk, drawn := d }) → codeAny (model prog w) A (.builtin "proto.collect" ⟨[.ref a], []⟩) R s := fun R out => by
    refine codeAny_builtin F.entry_proto_collect ?_
    rw [Around.under_plainId F.plain_proto_collect]
    refine wpAny_bind (m := newList []) (wpAny_newObj_type (wpAny_pure ⟨plainId_quiet F.plain_list_iadd _, codeAny_builtin F.entry_list_iadd ?_⟩))
    rw [Around.under_plainId F.plain_list_iadd]
    exact extend_set (s := { s with heap := s.heap.push (seqObj "list" #[] 0) }) (res := .ref s.heap.objs.size) (c := 0) (R := R) hh (x.at fun o => Heap.get?_push_of_some _) hes (Heap.get?_push_size _ rfl) (Nat.ne_of_gt ha)
      fun vs h' tk d c' hp hS old => out vs h' tk d c' hp hS fun b o e => old b (Nat.ne_of_lt (Heap.lt_size e)) o (Heap.get?_push_of_some _ e)
  refine wpAny_bind (m := runValue _) (wpAny_runValue (made _ fun vs h' tk d c' hp hS old => ?_))
  exact wpAny_bind (m := load _) (wpAny_load hS (wpAny_pure (next vs.toList h' tk d hp old (Nat.le_of_lt (Heap.lt_size hS)))))
end
end Mine
end

theorem Mine.calmS7 : True := by
  w_top off
  k_with_none
  k_with "k_ne" => (refine neN ?_; (try dsimp only); first | with_reducible assumption | with_reducible exact Ne.symm (by assumption))
  exact True.intro
section
open PySem PySem.W PyProof.Rows PySem.Calls PySem.Spec PyProof.V
set_option maxRecDepth 100000
namespace Mine

/-- at a lies a set of just the ints that S holds, n of them, with a table that can be walked -/
def SetG (prog : Program) (w : World) (h : Heap) (a : Addr) (S : Int → Bool) (n : Nat) : Prop :=
  ∃ es ep t, SetAt w h a es ep t ∧ ElemsOf (intKind prog w) es.toList ∧ (∀ k, S k = true ↔ ∃ e ∈ es.toList, (intKind prog w).is k e.2 = true) ∧ es.size < scanBound ∧ es.size = n

theorem SetG.at {prog : Program} {w : World} {a : Addr} {h h' : Heap} {S : Int → Bool} {n : Nat} (x : SetG prog w h a S n) (e : ∀ o, h.get? a = some o → h'.get? a = some o) : SetG prog w h' a S n :=
  let ⟨es, ep, t, q, r⟩ := x; ⟨es, ep, t, q.at e, r⟩

/-- the entries are the old ones and one more, in some order -/
abbrev More (es : Array (Int × Value)) (y : Int × Value) (es' : Array (Int × Value)) : Prop := es'.toList.Perm (es.toList ++ [y])

theorem More.size {es es' : Array (Int × Value)} {y : Int × Value} (h : More es y es') : es'.size = es.size + 1 := by
  simpa using h.length_eq

section
variable {prog : Program} {w : World} {A : Around} {E : Value → Shared → Prop} {s : Shared} {a : Addr} {es : Array (Int × Value)} {ep : Nat} {t : SetTable}

/-- a store keeps the address a set that can be walked, if the new table is one -/
theorem put_set {Q : Unit → Shared → Prop} (x : SetAt w s.heap a es ep t) {es' : Array (Int × Value)} {t' : SetTable} (hf : t'.fits es'.size = true) (ht : TabOk (!byText w) t') (hb : es'.size < scanBound)
    (next : ∀ h', SetAt w h' a es' (ep + 1) t' → Heap.SameBut a s.heap h' → Q () { s with heap := h' }) : wpAny (model prog w) A (storeSet a es' t') Q E s := by
  rcases x with ⟨⟨o, ho, hex, hd⟩, -, -⟩
  have ep' := putSet_of es' t' hd
  have hg := Heap.get?_update_self (Obj.putSet es' t') ho (by rw [ep']; rfl)
  exact wpAny_storeSet_of ho hd (next _ ⟨⟨_, hg, by rw [ep']; exact hex, by rw [ep']⟩, hf, ht⟩ (Heap.SameBut.update ..)) (fits_of_scanBound hb)

/-- a full table is laid anew behind the store, a table with room stays: the entries are the same ones either way -/
theorem put_grown {y : Int × Value} {es1 : Array (Int × Value)} {t1 : SetTable} {c : Bool} {f : Bool → Sem Unit} {R : Option Bool → Shared → Prop}
    (x : SetAt w s.heap a es ep t) (p : More es y es1) (hf : t1.fits es1.size = true) (ht : TabOk (!byText w) t1) (hb : es.size + 1 < scanBound)
    (told : ∀ b (s' : Shared) (Q : Unit → Shared → Prop), Q () s' → wpAny (model prog w) A (f b) Q E s')
    (next : ∀ h' es' ep' t', SetAt w h' a es' ep' t' → More es y es' → Heap.SameBut a s.heap h' → R (some true) { s with heap := h' }) :
    wpAny (model prog w) A (do
      storeSet a es1 t1
      if c = true then
        f (relayAll t1 es1 (SetTable.grown es1.size)).2.2
        storeSet a (relayAll t1 es1 (SetTable.grown es1.size)).1 (relayAll t1 es1 (SetTable.grown es1.size)).2.1
        pure (some true)
      else pure (some true)) R E s := by
  have hb1 : es1.size < scanBound := by rw [p.size]; exact hb
  refine wpAny_bind (put_set x hf ht hb1 fun h1 x1 k1 => ?_)
  cases c
  · exact wpAny_pure (next h1 _ _ _ x1 p k1)
  · have three := And.intro (relayAll_perm t1 es1 (SetTable.grown es1.size)) (And.intro (relayAll_fits t1 es1 (SetTable.grown es1.size)) (relayAll_ok ht es1 (SetTable.grown es1.size)))
    revert three
    generalize relayAll t1 es1 (SetTable.grown es1.size) = r
    rintro ⟨q, hf2, ht2⟩
    have hb2 : r.1.size < scanBound := by rw [More.size (q.trans p)]; exact hb
    rw [if_pos rfl]
    refine wpAny_bind (told _ _ _ (wpAny_bind (put_set x1 hf2 ht2 hb2 fun h2 x2 k2 => ?_)))
    exact wpAny_pure (next h2 _ _ _ x2 (q.trans p) (k1.trans k2))

/-- one int more: it is met among the entries, or it comes to them -/
theorem scan_add {k : Int} {tk : Tok} {R : Option Bool → Shared → Prop} (x : SetAt w s.heap a es ep t) (hel : ElemsOf (intKind prog w) es.toList) (hb : es.size + 1 < scanBound)
    (old : (∃ e ∈ es.toList, (intKind prog w).is k e.2 = true) → R (some false) s)
    (new : (∀ e ∈ es.toList, (intKind prog w).is k e.2 = false) → ∀ h' es' ep' t', SetAt w h' a es' ep' t' → More es ((intKind prog w).hash k, .int k tk) es' → Heap.SameBut a s.heap h' → R (some true) { s with heap := h' }) :
    wpAny (model prog w) A (setAddByScan a (.int k tk) ((intKind prog w).hash k) es t) R E s := by
  obtain ⟨o, ho, -, hd⟩ := x.1
  refine wpAny_bind (wpAny_rule (wpAny_bind (wpAny_setScan_of (intKind_is _ _ _ _) ho hd x.2.1 hel ?_)))
  rcases hf : List.findIdx? (fun e => (intKind prog w).is k e.2) es.toList with _ | j
  · have ends := new (List.findIdx?_eq_none_iff.mp hf)
    have four := And.intro (layNew_perm t es ((intKind prog w).hash k) (.int k tk)) (And.intro (layNew_fits t es ((intKind prog w).hash k) (.int k tk)) (layNew_ok x.2.2 es ((intKind prog w).hash k) (.int k tk)))
    revert four
    generalize layNew t es ((intKind prog w).hash k) (.int k tk) = r
    rintro ⟨q, hf1, ht1⟩
    rw [Array.toList_push] at q
    rw [hf]
    dsimp only
    refine wpAny_bind ?_
    cases hg : r.2.2.2
    all_goals
      first | refine wpAny_pure ?_ | refine wpAny_rule ?_
      split
      all_goals
        refine wpAny_bind (wpAny_of_eq (a := true) rfl ?_)
        refine put_grown x q hf1 ht1 hb (fun b _ _ h => ?_) ends
        cases b <;> first | exact wpAny_pure h | exact wpAny_rule h
  · obtain ⟨hj, hm, -⟩ := List.findIdx?_eq_some_iff_getElem.mp hf
    rw [hf]
    exact wpAny_pure (old ⟨_, List.getElem_mem hj, hm⟩)

theorem add_int {S : Int → Bool} {n : Nat} {k : Int} {tk : Tok} {Q : Bool → Shared → Prop} (hS : SetG prog w s.heap a S n) (hroom : n + 1 < scanBound)
    (next : ∀ (b : Bool) h', Heap.SameBut a s.heap h' → SetG prog w h' a (fun j => S j || decide (j = k)) (if S k then n else n + 1) → Q b { s with heap := h' }) :
    wpAny (model prog w) A (setAddHashed a (.int k tk) ((intKind prog w).hash k)) Q E s := by
  obtain ⟨es, ep, t, x, hel, hmem, hb, rfl⟩ := hS
  obtain ⟨o, ho, -, hd⟩ := x.1
  refine wpAny_holding ?_
  refine wpAny_bind (m := setState a) (wpAny_setState_of ho hd x.2.1 ?_)
  dsimp only
  rw [if_pos (byScan_of rfl hb hel)]
  refine wpAny_bind (scan_add x hel hroom (fun old => ?_) fun new h' es' ep' t' x' q kb => ?_)
  · have hk : S k = true := (hmem k).mpr old
    refine wpAny_pure (next false s.heap (Heap.SameBut.refl _ _) ⟨es, ep, t, x, hel, fun j => ?_, hb, by rw [if_pos hk]⟩)
    rw [Bool.or_eq_true, decide_eq_true_iff, ← hmem]
    exact ⟨fun h => h.elim id fun e => e ▸ hk, Or.inl⟩
  · have hk : ¬ S k = true := fun h => by
      obtain ⟨e, he, hi⟩ := (hmem k).mp h
      exact absurd (new e he) (by rw [hi]; decide)
    refine wpAny_pure (next true h' kb ⟨es', ep', t', x', (hel.push (intKind_is _ _ _ _) rfl).perm q, mem_push_iff (intKind_is _ _ _ _) hmem q, ?_, ?_⟩)
    · rw [More.size q]; exact hroom
    · rw [More.size q, if_neg hk]
end
end Mine
end

theorem Mine.calmS8 : True := by
  w_top off
  k_with_none
  k_with "k_ne" => (refine neN ?_; (try dsimp only); first | with_reducible assumption | with_reducible exact Ne.symm (by assumption))
  exact True.intro
section
open PySem PySem.W PyProof.Rows PySem.Calls PySem.Spec PyProof.V
set_option maxRecDepth 100000
namespace Mine

/-- a set as set() makes it: no entry, a table that has not moved, led if the world's text does not say the order -/
abbrev emptySet (w : World) : Obj := { cls := .type "set", dict := none, data := .set #[] 0 (.fresh 0 0 (!byText w)) }

/-- the set at S holds the first i of the numbers -/
abbrev Fed (prog : Program) (w : World) (h : Heap) (S : Addr) (val : Nat → Int) (i : Nat) : Prop :=
  SetG prog w h S (fun k => (firstMet val i).any (· == k)) (firstMet val i).length

section
variable {prog : Program} {w : World} {A : Around} {E : Value → Shared → Prop} {s : Shared} {S I : Addr}

theorem fed_none {h : Heap} {val : Nat → Int} (hg : h.get? S = some (emptySet w)) : Fed prog w h S val 0 :=
  ⟨#[], 0, _, ⟨⟨_, hg, ⟨rfl, rfl, rfl⟩, rfl⟩, rfl, rfl, fun _ => .nil⟩, fun _ he => (nomatch he), fun _ => ⟨fun h => (nomatch h), fun ⟨_, he, _⟩ => (nomatch he)⟩, by decide, rfl⟩

theorem feed_one {val : Nat → Int} {i : Nat} {t : Tok} {Q : Bool → Shared → Prop} (x : Fed prog w s.heap S val i) (hi : i + 1 < scanBound)
    (next : ∀ b h' tk, s.toks ≤ tk → Heap.SameBut S s.heap h' → Fed prog w h' S val (i + 1) → Q b { s with heap := h', toks := tk }) :
    wpAny (model prog w) A (setAdd S (.int (val i) t)) Q E s := by
  refine wpAny_holding (wpAny_bind (m := pyHash _) ((intKind prog w).pyHash (intKind_is _ _ (val i) t) ?_))
  refine add_int (s := { s with toks := s.toks + 1 }) x (Nat.lt_of_le_of_lt (Nat.succ_le_succ (firstMet_length_le val i)) hi) fun b h' same y => next b h' _ (Nat.le_succ _) same ?_
  have e : firstMet val (i + 1) = step_dedup (firstMet val i) (val i) := firstMet_succ val i
  unfold Fed
  rw [e, step_length, funext (step_any (firstMet val i) (val i))]
  exact y

/-- one turn of the loop that feeds a set -/
theorem loop_turn {R : Result → Shared → Prop}
    (h : wpAny (model prog w) A.in1 (pyNext (.ref I)) (fun r s₁ => match r with
        | none => R (.ok (.ret .none)) s₁
        | some x => wpAny (model prog w) A.in1 (setAdd S x) (fun _ s₂ => codeAny (model prog w) A (.builtin "set.update.loop" ⟨[.ref S, .ref I], []⟩) R s₂) (fun e s₂ => R (.error e) s₂) s₁)
      (fun e s₁ => R (.error e) s₁) s) :
    codeAny (model prog w) A (.builtin "set.update.loop" ⟨[.ref S, .ref I], []⟩) R s := by
  refine codeAny_builtin F.entry_set_update_loop ?_
  rw [Around.under_plainId F.plain_set_update_loop]
  refine wpAny_bind (m := pyNext (.ref I)) (wpAny_mono h (fun r s₁ hr => ?_) fun _ _ he => he)
  cases r with
  | none => exact wpAny_pure hr
  | some x => exact wpAny_bind (wpAny_holding (wpAny_mono hr (fun _ _ hn => wpAny_pure ⟨plainId_quiet F.plain_set_update_loop _, hn⟩) fun _ _ he => he))

theorem feed_loop {R : Result → Shared → Prop} {fp wr : List Addr} {G : Array GenState → Array GenState → Prop} {n : Nat} {P : Nat → Value → Prop} {St : Nat → Shared → Prop} {val : Nat → Int}
    (W : WalksS prog w A.in1 I fp wr G n P St) (hS : S ∉ fp) (hval : ∀ i v, P i v → ∃ t, v = .int (val i) t) (hn : n < scanBound) :
    ∀ (k i : Nat) (s : Shared), i + k = n → St i s → Fed prog w s.heap S val i →
      (∀ s', Moved (S :: wr) G s s' → Fed prog w s'.heap S val n → R (.ok (.ret .none)) s') → codeAny (model prog w) A (.builtin "set.update.loop" ⟨[.ref S, .ref I], []⟩) R s
  | 0, i, s, e, st, x, out => by
    obtain rfl : i = n := e
    refine loop_turn (W.done s _ _ st fun s' m => ?_)
    exact out s' (m.mono fun b hb => .tail _ hb) (x.at fun o => m.heap S o fun h => hS (W.sub S h))
  | k + 1, i, s, e, st, x, out => by
    refine loop_turn (W.item i s _ _ (by omega) st fun v s₁ hv st₁ m => ?_)
    obtain ⟨t, rfl⟩ := hval i v hv
    have x₁ : Fed prog w s₁.heap S val i := x.at fun o => m.heap S o fun h => hS (W.sub S h)
    refine feed_one x₁ (by omega) fun _ h' tk htk same x₂ => ?_
    have off : ∀ b, b ≠ S → ∀ o, s₁.heap.get? b = some o → h'.get? b = some o := fun b hb o ho => (same.2 b hb).trans ho
    refine feed_loop W hS hval hn k (i + 1) _ (by omega) (W.frame _ s₁ h' tk st₁ htk fun b hb => off b fun q => hS (q ▸ hb)) x₂ fun s₂ m₂ x₃ => ?_
    exact out s₂ (.trans W.gtrans ((m.mono fun b hb => .tail _ hb).then_heap htk fun b o hb => off b (fun q => hb (q ▸ .head _)) o) m₂) x₃

/-- a type that is called: its maker's code, then its starter's -/
theorem type_made {T newId initId : String} {args : List Value} {Q Q₁ : Value → Shared → Prop} (ft : TypeCalled T newId initId) (hct : checkTypeCall T ⟨args, []⟩ = pure ())
    (maker : codeAny (model prog w) A.in1 (.call (.builtin newId) ⟨.type T :: args, []⟩) (wants Q₁ E) s)
    (starter : ∀ v s₁, Q₁ v s₁ → s₁.TypeIs v T ∧ codeAny (model prog w) A.in1 (.call (.builtin initId) ⟨v :: args, []⟩) (wants (fun r s₂ => r = .none ∧ Q v s₂) E) s₁) :
    wpAny (model prog w) A (call (.type T) args) Q E s := by
  rcases ft with ⟨nt, cc, ⟨c, tl, order⟩, made, -, sub, ⟨look, bound, -, -⟩⟩
  refine wpAny_call (codeAny_of_tree (wpAny_pure ⟨Code.quiet_builtin _ (by decide +kernel), codeAny_builtin F.entry_type_call ?_⟩))
  rw [Around.under_plain (weight_type_call_type T args []) (units_type_call_type T args [])]
  repeat (any_goals (first | assumption | wp_step))
  refine codeAny_mono maker fun r s₁ hr => ?_
  match r, hr with
  | .error _, hr => exact hr
  | .ok (.ret v), hr =>
    obtain ⟨hT, goes⟩ := starter v s₁ hr
    have bv := bound v
    repeat (any_goals (first | assumption | wp_step))
    refine codeAny_mono goes fun r₂ s₂ hr₂ => ?_
    match r₂, hr₂ with
    | .error _, hr₂ => exact hr₂
    | .ok (.ret _), ⟨rfl, hq⟩ => repeat (any_goals (first | assumption | wp_step))

theorem set_made (v : Value) {Q : Value → Shared → Prop} (h : Q (.ref s.heap.objs.size) { s with heap := s.heap.push (emptySet w) }) :
    codeAny (model prog w) A (.call (.builtin "set.__new__") ⟨[.type "set", v], []⟩) (wants Q E) s := by
  refine codeAny_call_builtin F.plain_set_new F.entry_set_new (wpAny_of_eq (F.newCall_set_1 v) ?_)
  refine wpAny_bind (m := Builtin.Frozenset.newClass "set" _) (wpAny_bind (m := isType (.type "set")) (wpAny_of_eq (a := true) rfl (wpAny_bind (wpAny_of_eq sub_set_self (wpAny_pure ?_)))))
  refine wpAny_bind (m := newSet (.type "set")) (wpAny_bind (wpAny_bind (wpAny_askSetting (wpAny_pure ?_))))
  exact wpAny_newObj_type (wpAny_pure h)

theorem from_list {l : Addr} {items : Array Value} {Q : Unit → Shared → Prop} (hl : s.heap.IsList l items)
    (h : codeAny (model prog w) A (.builtin "set.update.loop" ⟨[.ref S, .ref s.heap.objs.size], []⟩) (wants (fun _ s' => Q () s') E) { s with heap := s.heap.push { cls := .type "list_iterator", data := .fields #[.ref l, .int 0 0] } }) :
    wpAny (model prog w) A (Builtin.Frozenset.updateFrom "set.__init__" S (.ref l)) Q E s := by
  refine wpAny_bind (m := Builtin.Frozenset.isAnySet (.ref l)) (wpAny_bind (m := isInstance _ _) (wpAny_isInstance hl.typeIs F.sub_list_set (wpAny_isInstance hl.typeIs F.sub_list_frozenset ?_)))
  refine wpAny_bind (m := typeOf (.ref l)) (wpAny_typeOf hl.typeIs ?_)
  rw [if_neg (by decide)]
  refine wpAny_bind (m := pyIter (.ref l)) (wpAny_pyIter_list hl (wpAny_bind (m := runValue _) (wpAny_runValue ?_)))
  exact codeAny_mono h fun r _ hr => by
    match r, hr with
    | .error _, hr => exact hr
    | .ok (.ret _), hr => exact wpAny_pure hr

/-- the starter of an empty set, told a list of ints: the set holds them -/
theorem set_started {l : Addr} {items : Array Value} {ns : List Int} {R : Result → Shared → Prop} (hh : A.handled = none) (hS : s.heap.get? S = some (emptySet w)) (hl : s.heap.IsList l items) (hSl : l < S) (hi : IntsAre items.toList ns) (hb : items.size < scanBound)
    (next : ∀ h' tk, Fed prog w h' S (fun i => ns.getD i 0) items.size → (∀ b, b < S → ∀ o, s.heap.get? b = some o → h'.get? b = some o) → R (.ok (.ret .none)) { s with heap := h', toks := tk }) :
    codeAny (model prog w) A (.call (.builtin "set.__init__") ⟨[.ref S, .ref l], []⟩) R s := by
  have hT : s.TypeIs (.ref S) "set" := ⟨_, hS, rfl⟩
  have hlt : S < s.heap.objs.size := Heap.lt_size hS
  refine codeAny_call_builtin F.called_set.init.plain F.entry_set_init (check_set_init_1 hT ?_)
  unfold Builtin.«set.__init__» noKeywords
  generalize hU : Builtin.Frozenset.updateFrom = U
  wp_walk
  subst hU
  have hI : (s.heap.push { cls := .type "list_iterator", data := .fields #[.ref l, .int 0 0] }).get? s.heap.objs.size = some { cls := .type "list_iterator", data := .fields #[.ref l, .int 0 0] } := Heap.get?_push_size _ rfl
  refine from_list hl (feed_loop (Walks.list (by simp [hh]) s.heap.objs.size l (Nat.ne_of_lt (Nat.lt_trans hSl hlt)) items).toS (fun h => ?_) (fun i v hv => IntsAre.int_at hi i v ?_) hb items.size 0 _ (Nat.zero_add _)
    ⟨⟨_, hI, rfl, rfl⟩, hl.push _⟩ (fed_none (Heap.get?_push_of_some _ hS)) fun s' m x => ?_)
  · rcases List.mem_cons.mp h with e | h
    · exact absurd e (Nat.ne_of_lt hlt)
    · exact absurd (List.mem_singleton.mp h) (Nat.ne_of_gt hSl)
  · rw [Array.getElem?_toList]; exact hv
  · have e := moved_same m
    rw [e]
    refine wpAny_pure (next _ _ x fun b hbS o ho => m.heap b o (fun h => ?_) (Heap.get?_push_of_some _ ho))
    rcases List.mem_cons.mp h with e | h
    · exact absurd e (Nat.ne_of_lt hbS)
    · exact absurd (List.mem_singleton.mp h) (Nat.ne_of_lt (Nat.lt_trans hbS hlt))

/-- set(l) for a list of ints -/
theorem call_set {l : Addr} {items : Array Value} {ns : List Int} {Q : Value → Shared → Prop} (hh : A.handled = none) (hl : s.heap.IsList l items) (hi : IntsAre items.toList ns) (hb : items.size < scanBound)
    (next : ∀ h' tk, Fed prog w h' s.heap.objs.size (fun i => ns.getD i 0) items.size → (∀ b, b < s.heap.objs.size → ∀ o, s.heap.get? b = some o → h'.get? b = some o) → Q (.ref s.heap.objs.size) { s with heap := h', toks := tk }) :
    wpAny (model prog w) A (call (.type "set") [.ref l]) Q E s := by
  have hlt : l < s.heap.objs.size := let ⟨_, ho, _⟩ := hl; Heap.lt_size ho
  refine type_made (Q₁ := fun v s₁ => v = .ref s.heap.objs.size ∧ s₁ = { s with heap := s.heap.push (emptySet w) }) F.called_set (F.typeCall_set_1 _) (set_made _ ⟨rfl, rfl⟩) ?_
  rintro _ _ ⟨rfl, rfl⟩
  have hS : (s.heap.push (emptySet w)).get? s.heap.objs.size = some (emptySet w) := Heap.get?_push_size _ rfl
  refine ⟨⟨_, hS, rfl⟩, set_started (by simp [hh]) hS (hl.push _) hlt hi hb fun h' tk x old => ⟨rfl, next h' tk x fun b hbS o ho => ?_⟩⟩
  exact old b hbS o (Heap.get?_push_of_some _ ho)
end
end Mine
end

theorem Mine.calmS9 : True := by
  w_top off
  k_with_none
  k_with "k_ne" => (refine neN ?_; (try dsimp only); first | with_reducible assumption | with_reducible exact Ne.symm (by assumption))
  exact True.intro
section
open PySem PySem.W PyProof.Rows PySem.Calls PySem.Spec PyProof.V
set_option maxRecDepth 100000
namespace Mine

section
variable {prog : Program} {w : World} {A : Around} {E : Value → Shared → Prop} {s : Shared} {a : Addr}

theorem ints_of (l : List (Int × Value)) (h : ElemsOf (intKind prog w) l) : ∃ ns : List Int, IntsAre (l.map (·.2)) ns ∧ (∀ k, k ∈ ns ↔ ∃ e ∈ l, (intKind prog w).is k e.2 = true) := by
  induction l with
  | nil => exact ⟨[], .nil, by simp⟩
  | cons e l ih =>
    obtain ⟨ns, h1, h2⟩ := ih h.tail
    obtain ⟨⟨k, hk, _⟩, _⟩ := h.head
    obtain ⟨t, ht⟩ := Value.isInt_shape hk
    refine ⟨k :: ns, by rw [List.map_cons, ht]; exact .cons k t h1, fun k' => ?_⟩
    rw [List.mem_cons, h2 k']
    constructor
    · rintro (rfl | ⟨e', he, hq⟩)
      · exact ⟨e, List.mem_cons_self, hk⟩
      · exact ⟨e', List.mem_cons_of_mem _ he, hq⟩
    · rintro ⟨e', he, hq⟩
      rcases List.mem_cons.mp he with rfl | he
      · exact .inl ((intKind prog w).inj _ _ _ hq hk)
      · exact .inr ⟨e', he, hq⟩

theorem ints_perm {vs ws : List Value} (p : vs.Perm ws) : ∀ {ns : List Int}, IntsAre ws ns → ∃ ms, IntsAre vs ms ∧ ms.Perm ns := by
  induction p with
  | nil => intro ns h; exact ⟨ns, h, List.Perm.refl _⟩
  | cons x p ih =>
    intro ns h
    cases h with
    | cons n t hr =>
      obtain ⟨ms, h1, h2⟩ := ih hr
      exact ⟨n :: ms, .cons n t h1, h2.cons _⟩
  | swap x y l =>
    intro ns h
    cases h with
    | cons n t hr =>
      cases hr with
      | cons n' t' hr' => exact ⟨n' :: n :: _, .cons n' t' (.cons n t hr'), List.Perm.swap _ _ _⟩
  | trans p q ih1 ih2 =>
    intro ns h
    obtain ⟨ms, h1, h2⟩ := ih2 h
    obtain ⟨ls, h3, h4⟩ := ih1 h1
    exact ⟨ls, h3, h4.trans h2⟩

theorem sorted_set {S : Int → Bool} {n : Nat} {Q : Value → Shared → Prop} (hh : A.handled = none) (x : SetG prog w s.heap a S n) (h64 : n < 64)
    (h : ∀ R h' tk d (out : Array Value) ns c, h'.get? R = some (seqObj "list" out c) → s.heap.objs.size ≤ R → IntsAre out.toList ns → ns.Pairwise (· ≤ ·) → (∀ k, k ∈ ns ↔ S k = true) → ns.length = n →
      (∀ b o, s.heap.get? b = some o → h'.get? b = some o) → Q (.ref R) { s with heap := h', toks := tk, drawn := d }) :
    wpAny (model prog w) A (call (.builtin "sorted") [.ref a]) Q E s := by
  obtain ⟨es, ep, t, xa, hel, hmem, hes, hn⟩ := x
  obtain ⟨ns, hI, hm⟩ := ints_of _ hel
  refine Calls.call_function_entry kind_sorted plain_sorted entry_sorted (args_sorted1 _) ?_
  unfold Builtin.«sorted»
  refine wpAny_bind (m := checkCount "sorted" 1 1 _) (wpAny_pure ?_)
  refine wpAny_bind (collect_set (by simp [hh]) xa hes fun vs h1 tk1 d1 hp hk1 hsz1 => ?_)
  obtain ⟨ms, hI2, hpm⟩ := ints_perm hp hI
  have hlen : vs.length = n := by rw [hp.length_eq, List.length_map, Array.length_toList, hn]
  refine wpAny_bind (wpAny_newList ?_ (by rw [hlen, ← hn]; exact fits_of_scanBound hes))
  have hoL : (h1.push (seqObj "list" vs.toArray 0)).get? h1.objs.size = some (seqObj "list" vs.toArray 0) := Heap.get?_push_size _ rfl
  refine wpAny_bind (wpAny_holding (wpAny_call_entry slot_list_sort ⟨_, hoL, rfl⟩ entry_list_sort (list_sort_tree hoL hI2 (by omega) fun out ns' a1 a2 a3 => ⟨_, rfl, ?_⟩) (args_list_sort _)))
  refine wpAny_pure ⟨_, rfl, ?_⟩
  have hsz2 : (h1.push (seqObj "list" vs.toArray 0)).objs.size = h1.objs.size + 1 := size_push' _ _
  have keep : ∀ b o, b ≠ h1.objs.size → (h1.push (seqObj "list" vs.toArray 0)).get? b = some o → (sortedHeap (h1.push (seqObj "list" vs.toArray 0)) h1.objs.size vs out).get? b = some o := by
    intro b o hb e
    unfold sortedHeap
    rw [Heap.get?_update_other _ _ (Ne.symm hb)]
    exact Heap.get?_push_of_some _ (Heap.get?_push_of_some _ (by rw [Heap.get?_update_other _ _ (Ne.symm hb)]; exact e))
  obtain ⟨c, hc⟩ : ∃ c, (sortedHeap (h1.push (seqObj "list" vs.toArray 0)) h1.objs.size vs out).get? h1.objs.size = some (seqObj "list" out c) := by
    unfold sortedHeap
    exact ⟨_, get?_update_seq (Heap.get?_push_of_some _ (Heap.get?_push_of_some _ (get?_update_seq hoL (fun _ => #[])))) (fun _ => out)⟩
  refine h h1.objs.size _ tk1 d1 out ns' c hc hsz1 a1 a3 (fun k => ?_) ?_ (fun b o e => ?_)
  · rw [(a2.trans hpm).mem_iff, hm k, hmem k]
  · have := IntsAre.length a1
    rw [a2.length_eq, ← IntsAre.length hI2, hlen]
  · have hb : b < s.heap.objs.size := Heap.lt_size e
    exact keep b o (Nat.ne_of_lt (Nat.lt_of_lt_of_le hb hsz1)) (Heap.get?_push_of_some _ (hk1 b o e))

theorem firstMet_mem (val : Nat → Int) (i : Nat) (k : Int) : k ∈ firstMet val i ↔ ∃ j, j < i ∧ val j = k := by
  have h := firstMet_any val i k
  constructor
  · intro hm
    have h1 : (firstMet val i).any (· == k) = true := List.any_eq_true.mpr ⟨k, hm, by simp⟩
    rw [h] at h1
    obtain ⟨x, hx, e⟩ := List.any_eq_true.mp h1
    obtain ⟨j, hj, rfl⟩ := List.mem_map.mp hx
    exact ⟨j, List.mem_range.mp hj, by simpa using e⟩
  · rintro ⟨j, hj, rfl⟩
    have h1 : ((List.range i).map val).any (· == val j) = true := List.any_eq_true.mpr ⟨val j, List.mem_map.mpr ⟨j, List.mem_range.mpr hj, rfl⟩, by simp⟩
    rw [← h] at h1
    obtain ⟨x, hx, e⟩ := List.any_eq_true.mp h1
    have : x = val j := by simpa using e
    exact this ▸ hx

theorem firstMet_nodup (val : Nat → Int) : ∀ i, (firstMet val i).Nodup
  | 0 => by rw [firstMet_zero]; exact List.Pairwise.nil
  | i + 1 => by
    rw [firstMet_succ]
    unfold step_dedup
    have ih := firstMet_nodup val i
    split
    · exact ih
    · rename_i hn
      rw [List.nodup_append]
      refine ⟨ih, by simp, ?_⟩
      intro x hx y hy e
      rw [List.mem_singleton] at hy
      subst hy; subst e
      exact hn (List.any_eq_true.mpr ⟨val i, hx, by simp⟩)
end
end Mine
end

theorem Mine.calmS10 : True := by
  w_top off
  k_with_none
  k_with "k_ne" => (refine neN ?_; (try dsimp only); first | with_reducible assumption | with_reducible exact Ne.symm (by assumption))
  exact True.intro
section
open PySem PySem.W PyProof.Rows PySem.Calls PySem.Spec PyProof.V
set_option maxRecDepth 100000
namespace Mine

theorem perm_of_subset : ∀ {F ns : List Int}, F.Nodup → (∀ k ∈ F, k ∈ ns) → ns.length = F.length → ns.Perm F
  | [], ns, _, _, hl => by
    have : ns = [] := List.length_eq_zero_iff.mp hl
    subst this; exact .refl _
  | x :: F, ns, hn, hs, hl => by
    have hx : x ∈ ns := hs x List.mem_cons_self
    obtain ⟨hxF, hnF⟩ := List.nodup_cons.mp hn
    refine (List.perm_cons_erase hx).trans (.cons _ (perm_of_subset hnF (fun k hk => ?_) ?_))
    · exact (List.mem_erase_of_ne (fun e : k = x => hxF (e ▸ hk))).mpr (hs k (List.mem_cons_of_mem _ hk))
    · rw [List.length_erase_of_mem hx, hl]; simp

abbrev firstS (ds : List Nat) : List Int := firstMet (fun i => (zs ds).getD i 0) ds.length

theorem firstS_mem (ds : List Nat) (k : Int) : k ∈ firstS ds ↔ k ∈ zs ds := by
  unfold firstS
  rw [firstMet_mem]
  constructor
  · rintro ⟨j, hj, rfl⟩
    have hj' : j < (zs ds).length := by rw [List.length_map]; exact hj
    rw [List.getD_eq_getElem?_getD, List.getElem?_eq_getElem hj']
    exact List.getElem_mem hj'
  · intro hk
    obtain ⟨j, hj, e⟩ := List.mem_iff_getElem.mp hk
    refine ⟨j, by rw [List.length_map] at hj; exact hj, ?_⟩
    rw [List.getD_eq_getElem?_getD, List.getElem?_eq_getElem hj]
    exact e

theorem zs_mem {ks : List Nat} {k : Int} : k ∈ zs ks ↔ ∃ z, z ∈ ks ∧ (z : Int) = k := List.mem_map

theorem sorted_zs {ds ks : List Nat} (hk : KeysOf ds ks) {ns : List Int} (h1 : ns.Pairwise (· ≤ ·)) (h2 : ∀ k, k ∈ ns ↔ (firstS ds).any (· == k) = true) (h3 : ns.length = (firstS ds).length) : ns = zs ks := by
  have hmem : ∀ k, (firstS ds).any (· == k) = true ↔ k ∈ firstS ds := fun k => by
    rw [List.any_eq_true]
    exact ⟨fun ⟨x, hx, e⟩ => (eq_of_beq e) ▸ hx, fun h => ⟨k, h, by simp⟩⟩
  have p1 : ns.Perm (firstS ds) := perm_of_subset (firstMet_nodup _ _) (fun k hk' => (h2 k).mpr ((hmem k).mpr hk')) h3
  have hnd : (zs ks).Nodup := by
    unfold List.Nodup
    rw [List.pairwise_map]
    exact hk.1.imp fun hab e => by omega
  have p2 : (firstS ds).Perm (zs ks) := by
    refine (List.perm_ext_iff_of_nodup (firstMet_nodup _ _) hnd).mpr fun k => ?_
    rw [firstS_mem, zs_mem, zs_mem]
    exact ⟨fun ⟨z, hz, e⟩ => ⟨z, (hk.2.1 z).mpr hz, e⟩, fun ⟨z, hz, e⟩ => ⟨z, (hk.2.1 z).mp hz, e⟩⟩
  exact List.Perm.eq_of_pairwise (fun a b _ _ hab hba => Int.le_antisymm hab hba) h1 (zs_sorted hk.1) (p1.trans p2)

section
variable {prog : Program} {w : World} {A : Around} {E : Value → Shared → Prop} {s : Shared} {h₀ : Heap} {L : Addr} {m : Str → Option Value} {news : List (Addr × Obj)}

/-- an object that is the set of these numbers, wherever it lies -/
def IsSetOf (prog : Program) (w : World) (a : Addr) (o : Obj) (ds : List Nat) : Prop :=
  ∀ h : Heap, h.get? a = some o → SetG prog w h a (fun k => (firstS ds).any (· == k)) (firstS ds).length

theorem news_new {D : Addr} {o : Obj} {h' : Heap} (F : Fr h₀ L s.heap m) (N : News h₀ L s.heap news) (old : ∀ b x, s.heap.get? b = some x → h'.get? b = some x) (hD : h'.get? D = some o) (hge : s.heap.objs.size ≤ D) :
    News h₀ L h' ((D, o) :: news) := by
  have free : h₀.get? D = none := by
    rcases e : h₀.get? D with _ | x
    · rfl
    · exact absurd (Heap.lt_size (F.keep D x e)) (Nat.not_lt.mpr hge)
  refine List.forall_mem_cons.mpr ⟨⟨hD, Nat.ne_of_gt (Nat.lt_of_lt_of_le F.ns.lt hge), free⟩, fun p hp => ?_⟩
  exact ⟨old _ _ (N.get hp), (N p hp).2⟩

theorem set_N {l : Addr} {vs : List Value} {ds : List Nat} {nn : Nat} {Q : Value → Shared → Prop} (F : Fr h₀ L s.heap m) (N : News h₀ L s.heap news)
    (hh : A.handled = none) (hl : (l, listOf vs.toArray nn) ∈ news) (hi : IntsAre vs (zs ds)) (hb : ds.length < 64)
    (h : ∀ h' (tk : Nat) a o, Fr h₀ L h' m → News h₀ L h' ((a, o) :: news) → IsSetOf prog w a o ds → Q (.ref a) { s with heap := h', toks := tk }) :
    wpAny (model prog w) A (call (.type "set") [.ref l]) Q E s := by
  have hsz : vs.toArray.size = ds.length := by rw [List.size_toArray, hi.length, List.length_map]
  refine call_set (ns := zs ds) hh ⟨_, N.get hl, rfl, nn, rfl⟩ (by simpa using hi) (by rw [hsz]; exact Nat.lt_trans hb (by decide)) fun h' tk x old => ?_
  rw [hsz] at x
  have keeps : ∀ b o, s.heap.get? b = some o → h'.get? b = some o := fun b o e => old b (Heap.lt_size e) o e
  obtain ⟨_, _, _, ⟨⟨o, ho, _⟩, _⟩, _⟩ := id x
  exact h h' tk _ o (F.keeps keeps) (news_new F N keeps ho (Nat.le_refl _)) fun _ e => x.at fun _ e' => by cases ho.symm.trans e'; exact e

theorem sorted_N {a : Addr} {o : Obj} {ds ks : List Nat} {Q : Value → Shared → Prop} (F : Fr h₀ L s.heap m) (N : News h₀ L s.heap news)
    (hh : A.handled = none) (hS : IsSetOf prog w a o ds) (ha : (a, o) ∈ news) (hk : KeysOf ds ks) (hb : ds.length < 64)
    (h : ∀ h' (tk : Nat) d R (vs : List Value) c, Fr h₀ L h' m → News h₀ L h' ((R, listOf vs.toArray c) :: news) → IntsAre vs (zs ks) → Q (.ref R) { s with heap := h', toks := tk, drawn := d }) :
    wpAny (model prog w) A (call (.builtin "sorted") [.ref a]) Q E s := by
  have hn : (firstS ds).length < 64 := Nat.lt_of_le_of_lt (firstMet_length_le _ _) hb
  refine sorted_set hh (hS _ (N.get ha)) hn fun R h' tk d out ns c hR hge hI h1 h2 h3 hkp => ?_
  have e := sorted_zs hk h1 h2 h3
  subst e
  obtain ⟨vs⟩ := out
  exact h h' tk d R vs c (F.keeps hkp) (news_new F N hkp hR hge) hI
end
end Mine
end

theorem Mine.calmW15 : True := by
  w_top off
  k_with_none
  k_with "k_ne" => (refine neN ?_; (try dsimp only); first | with_reducible assumption | with_reducible exact Ne.symm (by assumption))
  exact True.intro
section
open PySem PySem.W PyProof.Rows PySem.Calls PySem.Spec PyProof.V
namespace Mine
theorem fr_back {h₀ h : Heap} {L : Addr} {m : Str → Option Value} {ps : List (Str × Value)} (F : Fr h₀ L h (kstB m ps)) (hp : ∀ p ∈ ps, m p.1 = some p.2) : Fr h₀ L h m := by
  have e : kstB m ps = m := funext fun z => kstB_eq hp fun _ => rfl
  rw [e] at F; exact F
theorem rulesW15_0 : True := by
  k_with "call type:set" => (k_here; (with_reducible show wpAny _ _ (call (Value.type "set") [Value.ref _]) _ _ _); k_dflt (refine' set_N ?k1 ?k2 ?kh ?kl ?ki ?kb ?_); (case k1 => k_asm); (case k2 => k_asm); (case kh => exact rfl); (case kl => k_mem); (case ki => assumption); (case kb => omega); intro h' tk' a' o' F' N' hS')
  k_with "call builtin:sorted" => (k_here; (with_reducible show wpAny _ _ (call (Value.builtin "sorted") [Value.ref _]) _ _ _); k_dflt (refine' sorted_N ?k1 ?k2 ?kh ?kl ?ki ?kk ?kb ?_); (case k1 => k_asm); (case k2 => k_asm); (case kh => exact rfl); (case kl => assumption); (case ki => k_mem); (case kk => assumption); (case kb => omega); intro h' tk' d' R' vs' c' F' N' hI')
  exact True.intro
set_option maxRecDepth 100000 in
set_option maxHeartbeats 8000000 in
theorem seg3 {w : World} {mean : ExcName → Option Value} {mg mb : Str → Option Value} {dp un : Nat} {gd : Option (List Code)} {L fa : Addr} {ccd : Value} {outer : List Env} {A₀ : Around} {base h₀ : Heap} {m : Str → Option Value} {s : Shared} {Q : Flow → Shared → Prop} {E : Value → Shared → Prop}
    {lk ld : Addr} {vk vd : List Value} {ds ks : List Nat} {ck cd : Nat} {ox of op : Obj}
    (B : Below A₀ base outer h₀) (F : Fr h₀ L s.heap m) (X : (KK w).In h₀) (N : News h₀ L s.heap (ledK L lk ld vk vd ck cd ox of op)) (T : TopH mean mg mb h₀) (hd : dp + 16 < recursionLimit) (hu : un + 128 < cLine)
    (hm1 : m (Str.ofString "keys") = some (.ref lk)) (hm2 : m (Str.ofString "drawn") = some (.ref ld)) (hi : IntsAre vd (zs ds)) (hik : IntsAre vk (zs ks)) (hdl : ds.length ≤ 7) (hk : KeysOf ds ks)
    (next : ∀ h' tk' dr', Fr h₀ L h' m → News h₀ L h' (ledK L lk ld vk vd ck cd ox of op) → Q .next { s with heap := h', toks := tk', drawn := dr' }) :
    wpAny (model prg w) (lawA dp un gd L fa ccd outer) (exec (lawStmt 3) (lawEnv L fa ccd)) Q E s := by
  revert X T
  unfold prg KK TopH
  k_fill
  intro X T
  have F2 := fr_know F [(Str.ofString "keys", .ref lk), (Str.ofString "drawn", .ref ld)] (by simp [hm1, hm2])
  dsimp only [kstB] at F2
  clear F
  conv => enter [3, 1]; whnf
  k_steps
  refine next _ _ _ (fr_back (ps := [(Str.ofString "keys", .ref lk), (Str.ofString "drawn", .ref ld)]) (by assumption) (by simp [hm1, hm2])) ?_
  intro p hp
  exact (by assumption : News h₀ L _ (_ :: _ :: ledK L lk ld vk vd ck cd ox of op)) p (.tail _ (.tail _ hp))
end Mine
end

theorem Mine.calmP10 : True := by
  w_top off
  k_with_none
  k_with "k_ne" => (refine neN ?_; (try dsimp only); first | with_reducible assumption | with_reducible exact Ne.symm (by assumption))
  exact True.intro
section
open PySem
namespace Mine
/-! two numbers that part at the figure q -/
def Parts (a b q : Nat) : Prop := a / 2 ^ (q + 1) = b / 2 ^ (q + 1) ∧ a / 2 ^ q % 2 = 0 ∧ b / 2 ^ q % 2 = 1

theorem div_step (a q : Nat) : a / 2 ^ (q + 1) = a / 2 ^ q / 2 := by rw [Nat.pow_succ, Nat.div_div_eq_div_mul]

theorem Parts.lt {a b q : Nat} (h : Parts a b q) : a < b := by
  obtain ⟨h1, h2, h3⟩ := h
  rw [div_step, div_step] at h1
  rcases Nat.lt_or_ge a b with h | h
  · exact h
  · have := Nat.div_le_div_right (c := 2 ^ q) h
    omega

theorem Parts.uniq {a b p q : Nat} (h : Parts a b p) (h' : Parts a b q) : p = q := by
  have key : ∀ {p q : Nat}, Parts a b p → Parts a b q → ¬ p < q := by
    intro p q h h' hlt
    have e : 2 ^ q = 2 ^ (p + 1) * 2 ^ (q - p - 1) := by rw [← Nat.pow_add]; congr 1; omega
    have h1 := h.1
    have h2 := h'.2.1
    have h3 := h'.2.2
    rw [e, ← Nat.div_div_eq_div_mul] at h2 h3
    rw [h1] at h2
    omega
  rcases Nat.lt_trichotomy p q with h1 | h1 | h1
  · exact absurd h1 (key h h')
  · exact h1
  · exact absurd h1 (key h' h)

theorem xor_top {a b q : Nat} (h : Parts a b q) : Nat.log2 (a ^^^ b) = q ∧ 0 < a ^^^ b := by
  have e1 : (a ^^^ b) / 2 ^ (q + 1) = 0 := by rw [Nat.xor_div_two_pow, h.1, Nat.xor_self]
  have e2 : (a ^^^ b) / 2 ^ q % 2 = 1 := by
    rw [Nat.xor_div_two_pow, Nat.xor_mod_two_eq_one, h.2.1, h.2.2]
    omega
  have h1 : (a ^^^ b) < 2 ^ (q + 1) := by
    rcases Nat.div_eq_zero_iff.mp e1 with h | h
    · exact absurd h (Nat.ne_of_gt (Nat.two_pow_pos _))
    · exact h
  have h2 : 2 ^ q ≤ (a ^^^ b) := by
    rcases Nat.lt_or_ge (a ^^^ b) (2 ^ q) with h | h
    · rw [Nat.div_eq_of_lt h] at e2; omega
    · exact h
  have h0 : 0 < a ^^^ b := Nat.lt_of_lt_of_le (Nat.two_pow_pos _) h2
  exact ⟨(Nat.log2_eq_iff (by omega)).mpr ⟨h2, h1⟩, h0⟩

theorem xor_zero_eq {a b : Nat} (h : a ^^^ b = 0) : a = b := by
  have e : (a ^^^ b) ^^^ b = a := by rw [Nat.xor_assoc, Nat.xor_self, Nat.xor_zero]
  rw [h, Nat.zero_xor] at e
  exact e.symm

theorem parts_of {a b : Nat} (h : a < b) : Parts a b (Nat.log2 (a ^^^ b)) := by
  have hne : a ^^^ b ≠ 0 := fun e => by
    have := xor_zero_eq e
    omega
  have h1 := Nat.log2_self_le hne
  have h2 := Nat.lt_log2_self (n := a ^^^ b)
  generalize Nat.log2 (a ^^^ b) = q at h1 h2
  have e1 : a / 2 ^ (q + 1) ^^^ b / 2 ^ (q + 1) = 0 := by rw [← Nat.xor_div_two_pow]; exact Nat.div_eq_of_lt h2
  have e1' := xor_zero_eq e1
  have e2 : (a ^^^ b) / 2 ^ q = 1 := by
    have h3 : (a ^^^ b) / 2 ^ q < 2 := by
      rw [Nat.div_lt_iff_lt_mul (Nat.two_pow_pos _), Nat.mul_comm, ← Nat.pow_succ]; exact h2
    have h4 : 0 < (a ^^^ b) / 2 ^ q := Nat.div_pos h1 (Nat.two_pow_pos _)
    omega
  have e3 : (a / 2 ^ q ^^^ b / 2 ^ q) % 2 = 1 := by rw [← Nat.xor_div_two_pow, e2]
  rw [Nat.xor_mod_two_eq_one] at e3
  have hle := Nat.div_le_div_right (c := 2 ^ q) (Nat.le_of_lt h)
  rw [div_step, div_step] at e1'
  refine ⟨by rw [div_step, div_step]; exact e1', ?_, ?_⟩ <;> omega

/-- figures above the parting are alike -/
theorem alike {a b q p : Nat} (h : a / 2 ^ (q + 1) = b / 2 ^ (q + 1)) (hp : q < p) : a / 2 ^ p % 2 = b / 2 ^ p % 2 := by
  have e : 2 ^ p = 2 ^ (q + 1) * 2 ^ (p - q - 1) := by rw [← Nat.pow_add]; congr 1; omega
  rw [e, ← Nat.div_div_eq_div_mul, ← Nat.div_div_eq_div_mul, h]

theorem alike_up {a b q p : Nat} (h : a / 2 ^ q = b / 2 ^ q) (hp : q ≤ p) : a / 2 ^ p = b / 2 ^ p := by
  have e : 2 ^ p = 2 ^ q * 2 ^ (p - q) := by rw [← Nat.pow_add]; congr 1; omega
  rw [e, ← Nat.div_div_eq_div_mul, ← Nat.div_div_eq_div_mul, h]

/-! sketches -/
theorem sk_eq {x y : Nat} : ∀ {ps : List Nat}, (∀ p ∈ ps, x / 2 ^ p % 2 = y / 2 ^ p % 2) → skN x ps = skN y ps
  | [], _ => rfl
  | p :: r, h => by
    rw [skN, skN, sk_eq (fun q hq => h q (List.mem_cons_of_mem _ hq)), h p List.mem_cons_self]

theorem sk_le {x y : Nat} : ∀ {ps : List Nat}, (∀ p ∈ ps, x / 2 ^ p % 2 ≤ y / 2 ^ p % 2) → skN x ps ≤ skN y ps
  | [], _ => Nat.le_refl _
  | p :: r, h => by
    have h1 := sk_le (fun q hq => h q (List.mem_cons_of_mem _ hq) : ∀ q ∈ r, _)
    have h2 := h p List.mem_cons_self
    rw [skN, skN]
    omega

theorem sk_lt {x y q : Nat} (h : Parts x y q) : ∀ {ps : List Nat}, ps.Pairwise (· < ·) → q ∈ ps → skN x ps < skN y ps
  | [], _, hq => absurd hq (List.not_mem_nil)
  | p :: r, hs, hq => by
    obtain ⟨h1, h2⟩ := List.pairwise_cons.mp hs
    rw [skN, skN]
    rcases List.mem_cons.mp hq with e | hq
    · subst e
      have := sk_eq (ps := r) (x := x) (y := y) fun p hp => alike h.1 (h1 p hp)
      have h3 := h.2.1
      have h4 := h.2.2
      omega
    · have := sk_lt h h2 hq
      omega

/-- three numbers: where the outer ones part, the middle one parts from one of them -/
theorem between {a b c q : Nat} (h : Parts a c q) (h1 : a < b) (h2 : b < c) : Parts a b q ∨ Parts b c q := by
  have g1 := Nat.div_le_div_right (c := 2 ^ (q + 1)) (Nat.le_of_lt h1)
  have g2 := Nat.div_le_div_right (c := 2 ^ (q + 1)) (Nat.le_of_lt h2)
  have e := h.1
  have e1 : a / 2 ^ (q + 1) = b / 2 ^ (q + 1) := by omega
  rcases Nat.mod_two_eq_zero_or_one (b / 2 ^ q) with g | g
  · exact .inr ⟨by omega, g, h.2.2⟩
  · exact .inl ⟨e1, h.2.1, g⟩
end Mine
end

theorem Mine.calmP11 : True := by
  w_top off
  k_with_none
  k_with "k_ne" => (refine neN ?_; (try dsimp only); first | with_reducible assumption | with_reducible exact Ne.symm (by assumption))
  exact True.intro
section
open PySem
namespace Mine
/-- the fork between the keys j and j + 1 -/
def topN (ks : List Nat) (j : Nat) : Nat := Nat.log2 (ks.getD j 0 ^^^ ks.getD (j + 1) 0)
def forkN (ks : List Nat) : Nat → Nat
  | 0 => 0
  | j + 1 => forkN ks j ||| 1 * 2 ^ topN ks j
def placesN (f : Nat) : List Nat := (List.range 48).filter (fun p => decide (f / 2 ^ p % 2 = 1))
def psOf (ks : List Nat) : List Nat := placesN (forkN ks (ks.length - 1))
def ssOf (ks : List Nat) : List Nat := ks.map fun k => skN k (psOf ks)

theorem fork_bit (ks : List Nat) (q : Nat) : ∀ n, forkN ks n / 2 ^ q % 2 = 1 ↔ ∃ j, j < n ∧ topN ks j = q
  | 0 => by simp [forkN]
  | n + 1 => by
    have ih := fork_bit ks q n
    have e1 : ∀ x : Nat, x / 2 ^ q % 2 = 1 ↔ x.testBit q = true := fun x => by rw [Nat.testBit_eq_decide_div_mod_eq]; simp
    rw [e1] at ih ⊢
    rw [forkN, Nat.testBit_or, Nat.one_mul, Nat.testBit_two_pow, Bool.or_eq_true, ih, decide_eq_true_eq]
    constructor
    · rintro (⟨j, hj, h⟩ | h)
      · exact ⟨j, by omega, h⟩
      · exact ⟨n, by omega, h⟩
    · rintro ⟨j, hj, h⟩
      by_cases hq : j = n
      · exact .inr (hq ▸ h)
      · exact .inl ⟨j, by omega, h⟩

theorem ps_lt {ks : List Nat} {p : Nat} (h : p ∈ psOf ks) : p < 48 := by
  unfold psOf placesN at h
  exact List.mem_range.mp (List.mem_filter.mp h).1

theorem ps_mem {ks : List Nat} {p : Nat} : p ∈ psOf ks ↔ p < 48 ∧ ∃ j, j < ks.length - 1 ∧ topN ks j = p := by
  unfold psOf placesN
  rw [List.mem_filter, List.mem_range, decide_eq_true_eq, fork_bit]

theorem ps_rising (ks : List Nat) : (psOf ks).Pairwise (· < ·) := by
  unfold psOf placesN
  exact List.Pairwise.filter _ List.pairwise_lt_range

theorem nodup_le : ∀ {F ns : List Nat}, F.Nodup → (∀ k ∈ F, k ∈ ns) → F.length ≤ ns.length
  | [], _, _, _ => Nat.zero_le _
  | x :: F, ns, hn, hs => by
    have hx : x ∈ ns := hs x List.mem_cons_self
    obtain ⟨hxF, hnF⟩ := List.nodup_cons.mp hn
    have := nodup_le (F := F) (ns := ns.erase x) hnF fun k hk => (List.mem_erase_of_ne (fun e : k = x => hxF (e ▸ hk))).mpr (hs k (List.mem_cons_of_mem _ hk))
    rw [List.length_erase_of_mem hx] at this
    have : 0 < ns.length := List.length_pos_of_mem hx
    rw [List.length_cons]
    omega

theorem ps_length (ks : List Nat) : (psOf ks).length ≤ ks.length - 1 := by
  have h := nodup_le (F := psOf ks) (ns := (List.range (ks.length - 1)).map (topN ks)) ((ps_rising ks).imp fun h => Nat.ne_of_lt h) fun p hp => by
    obtain ⟨_, j, hj, e⟩ := ps_mem.mp hp
    exact List.mem_map.mpr ⟨j, List.mem_range.mpr hj, e⟩
  rw [List.length_map, List.length_range] at h
  exact h

theorem rise_at {ks : List Nat} (hs : ks.Pairwise (· < ·)) {i j : Nat} (hij : i < j) (hj : j < ks.length) : ks.getD i 0 < ks.getD j 0 := by
  have h := List.pairwise_iff_getElem.mp hs i j (by omega) hj hij
  rw [List.getD_eq_getElem?_getD, List.getD_eq_getElem?_getD, List.getElem?_eq_getElem hj, List.getElem?_eq_getElem (show i < ks.length by omega)]
  exact h

theorem parts_bound {a b q n : Nat} (h : Parts a b q) (hb : b < 2 ^ n) : q < n := by
  rcases Nat.lt_or_ge q n with h1 | h1
  · exact h1
  · have : b / 2 ^ q = 0 := Nat.div_eq_of_lt (Nat.lt_of_lt_of_le hb (Nat.pow_le_pow_right (by omega) h1))
    have := h.2.2
    omega

theorem at_bound {ks : List Nat} (hb : ∀ k ∈ ks, k < 2 ^ 48) (j : Nat) : ks.getD j 0 < 2 ^ 48 := by
  rw [List.getD_eq_getElem?_getD]
  cases h : ks[j]? with
  | none => exact Nat.two_pow_pos _
  | some v => exact hb v (List.mem_of_getElem? h)

theorem top_mem {ks : List Nat} (hs : ks.Pairwise (· < ·)) (hb : ∀ k ∈ ks, k < 2 ^ 48) : ∀ (d i j q : Nat), j - i = d → i < j → j < ks.length → Parts (ks.getD i 0) (ks.getD j 0) q → q ∈ psOf ks
  | 0, i, j, q, hd, hij, hj, h => by omega
  | d + 1, i, j, q, hd, hij, hj, h => by
    have hq := parts_bound h (at_bound hb j)
    by_cases h1 : j = i + 1
    · refine ps_mem.mpr ⟨hq, i, by omega, ?_⟩
      unfold topN
      rw [← h1]
      exact (xor_top h).1
    · have g1 := rise_at hs (i := i) (j := j - 1) (by omega) (by omega)
      have g2 := rise_at hs (i := j - 1) (j := j) (by omega) hj
      rcases between h g1 g2 with g | g
      · exact top_mem hs hb d i (j - 1) q (by omega) (by omega) (by omega) g
      · refine ps_mem.mpr ⟨hq, j - 1, by omega, ?_⟩
        unfold topN
        rw [show j - 1 + 1 = j by omega]
        exact (xor_top g).1

theorem top_of {ks : List Nat} (hs : ks.Pairwise (· < ·)) (hb : ∀ k ∈ ks, k < 2 ^ 48) {a b q : Nat} (ha : a ∈ ks) (hbm : b ∈ ks) (h : Parts a b q) : q ∈ psOf ks := by
  obtain ⟨i, hi, ei⟩ := List.mem_iff_getElem.mp ha
  obtain ⟨j, hj, ej⟩ := List.mem_iff_getElem.mp hbm
  have ei' : ks.getD i 0 = a := by rw [List.getD_eq_getElem?_getD, List.getElem?_eq_getElem hi]; exact ei
  have ej' : ks.getD j 0 = b := by rw [List.getD_eq_getElem?_getD, List.getElem?_eq_getElem hj]; exact ej
  have hlt := h.lt
  have hij : i < j := by
    rcases Nat.lt_trichotomy i j with h1 | h1 | h1
    · exact h1
    · subst h1; omega
    · have := rise_at hs h1 hi
      omega
  exact top_mem hs hb (j - i) i j q rfl hij hj (by rw [ei', ej']; exact h)

theorem ss_rising {ks : List Nat} (hs : ks.Pairwise (· < ·)) (hb : ∀ k ∈ ks, k < 2 ^ 48) : (ssOf ks).Pairwise (· < ·) := by
  unfold ssOf
  rw [List.pairwise_map]
  refine List.Pairwise.imp_of_mem (fun {a b} ha hbm hab => ?_) hs
  exact sk_lt (parts_of hab) (ps_rising ks) (top_of hs hb ha hbm (parts_of hab))
end Mine
end

theorem Mine.calmP12 : True := by
  w_top off
  k_with_none
  k_with "k_ne" => (refine neN ?_; (try dsimp only); first | with_reducible assumption | with_reducible exact Ne.symm (by assumption))
  exact True.intro
section
open PySem
namespace Mine
theorem sk_cl {ks : List Nat} (q : Nat) : clN (ssOf ks) q = ks.countP (fun k => decide (skN k (psOf ks) < q)) := by
  unfold clN ssOf
  rw [List.countP_map]
  rfl

theorem get_at {ks : List Nat} {j : Nat} (hj : j < ks.length) : ks[j]? = some (ks.getD j 0) := by
  rw [List.getD_eq_getElem?_getD, List.getElem?_eq_getElem hj]; rfl

theorem near_mem {ks : List Nat} {r j : Nat} (hj : j < ks.length) (h : j = r ∨ j + 1 = r) : ks.getD j 0 ∈ nearKs ks r := by
  unfold nearKs
  refine List.mem_of_getElem? (i := j - (r - 1)) ?_
  rw [List.getElem?_drop, List.getElem?_take_of_lt (by omega), show r - 1 + (j - (r - 1)) = j by omega]
  exact get_at hj

theorem near_sub {ks : List Nat} {r k : Nat} (h : k ∈ nearKs ks r) : k ∈ ks := List.mem_of_mem_take (List.mem_of_mem_drop h)

theorem least_of : ∀ {q : List Nat} (_ : 0 < q.length) (f : Nat → Nat), ∃ s ∈ q, ∀ k ∈ q, f s ≤ f k
  | [a], _, f => ⟨a, by simp, by simp⟩
  | a :: b :: r, _, f => by
    obtain ⟨s, hs, h⟩ := least_of (q := b :: r) (by simp) f
    rcases Nat.le_total (f a) (f s) with g | g
    · refine ⟨a, List.mem_cons_self, fun k hk => ?_⟩
      rcases List.mem_cons.mp hk with rfl | hk
      · exact Nat.le_refl _
      · exact Nat.le_trans g (h k hk)
    · refine ⟨s, List.mem_cons_of_mem _ hs, fun k hk => ?_⟩
      rcases List.mem_cons.mp hk with rfl | hk
      · exact g
      · exact h k hk

theorem apart_ex {ks : List Nat} {r : Nat} (x : Nat) (h : 0 < (nearKs ks r).length) : ∃ ap, IsApart (nearKs ks r) x ap := by
  obtain ⟨s, hs, h⟩ := least_of h (fun k => k ^^^ x)
  exact ⟨s ^^^ x, ⟨s, hs, rfl⟩, h⟩

/-- the key itself -/
theorem own_rank {ks : List Nat} (hs : ks.Pairwise (· < ·)) (hb : ∀ k ∈ ks, k < 2 ^ 48) {x : Nat} (hx : x ∈ ks) : clN (ssOf ks) (skN x (psOf ks)) = clN ks x := by
  rw [sk_cl]
  unfold clN
  apply List.countP_congr
  intro k hk
  simp only [decide_eq_true_eq]
  constructor
  · intro h
    rcases Nat.lt_trichotomy k x with g | g | g
    · exact g
    · subst g; omega
    · have := sk_lt (parts_of g) (ps_rising ks) (top_of hs hb hx hk (parts_of g))
      omega
  · intro h
    exact sk_lt (parts_of h) (ps_rising ks) (top_of hs hb hk hx (parts_of h))

/-- what parts x from the keys, when x is none of them -/
structure Nearest (ks : List Nat) (x s t : Nat) : Prop where
  mem : s ∈ ks
  none : x ∉ ks
  up : s / 2 ^ (t + 1) = x / 2 ^ (t + 1)
  least : ∀ k ∈ ks, 2 ^ t ≤ k ^^^ x
  log : Nat.log2 (s ^^^ x) = t

theorem nearest_ex {ks : List Nat} (h0 : 0 < ks.length) {x : Nat} (hx : x ∉ ks) : ∃ s t, Nearest ks x s t := by
  obtain ⟨s, hs, h⟩ := least_of h0 (fun k => k ^^^ x)
  have hne : s ^^^ x ≠ 0 := fun e => hx (xor_zero_eq e ▸ hs)
  refine ⟨s, Nat.log2 (s ^^^ x), hs, hx, ?_, fun k hk => Nat.le_trans (Nat.log2_self_le hne) (h k hk), rfl⟩
  have h2 := Nat.lt_log2_self (n := s ^^^ x)
  exact xor_zero_eq (by rw [← Nat.xor_div_two_pow]; exact Nat.div_eq_of_lt h2)

/-- where a key parts from x -/
theorem Nearest.cases {ks : List Nat} {x s t k : Nat} (n : Nearest ks x s t) (hk : k ∈ ks) :
    (∃ q, t < q ∧ Parts k x q) ∨ (∃ q, t < q ∧ Parts x k q) ∨ Parts k x t ∨ Parts x k t := by
  have hle := n.least k hk
  have key : ∀ q, Nat.log2 (k ^^^ x) = q → t ≤ q := by
    intro q e
    have hne : k ^^^ x ≠ 0 := fun e => n.none (xor_zero_eq e ▸ hk)
    rw [← e]
    rcases Nat.lt_or_ge (Nat.log2 (k ^^^ x)) t with g | g
    · have := (Nat.log2_lt hne).mp g; omega
    · exact g
  rcases Nat.lt_trichotomy k x with g | g | g
  · have hp := parts_of g
    have := key _ rfl
    rcases Nat.lt_or_ge t (Nat.log2 (k ^^^ x)) with e | e
    · exact .inl ⟨_, e, hp⟩
    · have e' : Nat.log2 (k ^^^ x) = t := by omega
      rw [e'] at hp
      exact .inr (.inr (.inl hp))
  · exact absurd (g ▸ hk) n.none
  · have hp := parts_of g
    have := key _ rfl
    rw [Nat.xor_comm] at hp
    rcases Nat.lt_or_ge t (Nat.log2 (k ^^^ x)) with e | e
    · exact .inr (.inl ⟨_, e, hp⟩)
    · have e' : Nat.log2 (k ^^^ x) = t := by omega
      rw [e'] at hp
      exact .inr (.inr (.inr hp))

theorem Parts.swap_right {a b c t q : Nat} (h : Parts a b q) (hq : t < q) (e : c / 2 ^ (t + 1) = b / 2 ^ (t + 1)) : Parts a c q := by
  have e1 := alike_up e (show t + 1 ≤ q by omega)
  have e2 := alike_up e (show t + 1 ≤ q + 1 by omega)
  exact ⟨by rw [e2]; exact h.1, h.2.1, by rw [e1]; exact h.2.2⟩

theorem Parts.swap_left {a b c t q : Nat} (h : Parts a b q) (hq : t < q) (e : c / 2 ^ (t + 1) = a / 2 ^ (t + 1)) : Parts c b q := by
  have e1 := alike_up e (show t + 1 ≤ q by omega)
  have e2 := alike_up e (show t + 1 ≤ q + 1 by omega)
  exact ⟨by rw [e2]; exact h.1, by rw [e1]; exact h.2.1, h.2.2⟩

theorem Nearest.below {ks : List Nat} (hs : ks.Pairwise (· < ·)) (hb : ∀ k ∈ ks, k < 2 ^ 48) {x s t k q y : Nat} (n : Nearest ks x s t) (hk : k ∈ ks) (hq : t < q) (h : Parts k x q) (hy : y / 2 ^ (t + 1) = x / 2 ^ (t + 1)) :
    k < s ∧ skN k (psOf ks) < skN y (psOf ks) := by
  have h1 := h.swap_right hq n.up
  exact ⟨h1.lt, sk_lt (h.swap_right hq hy) (ps_rising ks) (top_of hs hb hk n.mem h1)⟩

theorem Nearest.above {ks : List Nat} (hs : ks.Pairwise (· < ·)) (hb : ∀ k ∈ ks, k < 2 ^ 48) {x s t k q y : Nat} (n : Nearest ks x s t) (hk : k ∈ ks) (hq : t < q) (h : Parts x k q) (hy : y / 2 ^ (t + 1) = x / 2 ^ (t + 1)) :
    s < k ∧ skN y (psOf ks) < skN k (psOf ks) := by
  have h1 := h.swap_left hq n.up
  exact ⟨h1.lt, sk_lt (h.swap_left hq hy) (ps_rising ks) (top_of hs hb n.mem hk h1)⟩

theorem parts_up {a b t : Nat} (h : Parts a b t) : a / 2 ^ (t + 1) = b / 2 ^ (t + 1) := h.1

theorem Nearest.near {ks : List Nat} (hs : ks.Pairwise (· < ·)) (hb : ∀ k ∈ ks, k < 2 ^ 48) {x s t : Nat} (n : Nearest ks x s t) :
    ∃ k ∈ nearKs ks (clN (ssOf ks) (skN x (psOf ks))), k / 2 ^ (t + 1) = x / 2 ^ (t + 1) := by
  obtain ⟨h1, h2⟩ := split_at (ss_rising hs hb) (skN x (psOf ks))
  have hrl : clN (ssOf ks) (skN x (psOf ks)) ≤ ks.length := by
    have : clN (ssOf ks) (skN x (psOf ks)) ≤ (ssOf ks).length := List.countP_le_length
    unfold ssOf at this ⊢
    rw [List.length_map] at this
    exact this
  generalize clN (ssOf ks) (skN x (psOf ks)) = r at h1 h2 hrl
  have hsg : ∀ {i : Nat}, i < ks.length → (ssOf ks)[i]? = some (skN (ks.getD i 0) (psOf ks)) := fun {i} hi => by
    unfold ssOf
    rw [List.getElem?_map, get_at hi]; rfl
  have hm : ∀ {i : Nat}, i < ks.length → ks.getD i 0 ∈ ks := fun {i} hi => List.mem_of_getElem? (get_at hi)
  obtain ⟨j, hj, ej⟩ := List.mem_iff_getElem.mp n.mem
  have ej' : ks.getD j 0 = s := by rw [List.getD_eq_getElem?_getD, List.getElem?_eq_getElem hj]; exact ej
  by_cases hjr : j < r
  · have hi : r - 1 < ks.length := by omega
    have hlt : skN (ks.getD (r - 1) 0) (psOf ks) < skN x (psOf ks) := by
      refine h1 _ (List.mem_of_getElem? (i := r - 1) ?_)
      rw [List.getElem?_take_of_lt (by omega)]
      exact hsg hi
    have hge : s ≤ ks.getD (r - 1) 0 := by
      rw [← ej']
      by_cases e : j = r - 1
      · rw [e]; exact Nat.le_refl _
      · exact Nat.le_of_lt (rise_at hs (by omega) hi)
    refine ⟨_, near_mem hi (.inr (by omega)), ?_⟩
    rcases n.cases (hm hi) with ⟨q, hq, h⟩ | ⟨q, hq, h⟩ | h | h
    · have := (n.below hs hb (hm hi) hq h rfl).1; omega
    · have := (n.above hs hb (hm hi) hq h rfl).2; omega
    · exact h.1
    · exact h.1.symm
  · have hi : r < ks.length := by omega
    have hlt : skN x (psOf ks) ≤ skN (ks.getD r 0) (psOf ks) := by
      refine h2 _ (List.mem_of_getElem? (i := 0) ?_)
      rw [List.getElem?_drop, Nat.add_zero]
      exact hsg hi
    have hge : ks.getD r 0 ≤ s := by
      rw [← ej']
      by_cases e : j = r
      · rw [e]; exact Nat.le_refl _
      · exact Nat.le_of_lt (rise_at hs (by omega) hj)
    refine ⟨_, near_mem hi (.inl rfl), ?_⟩
    rcases n.cases (hm hi) with ⟨q, hq, h⟩ | ⟨q, hq, h⟩ | h | h
    · have := (n.below hs hb (hm hi) hq h rfl).2; omega
    · have := (n.above hs hb (hm hi) hq h rfl).1; omega
    · exact h.1
    · exact h.1.symm

theorem Nearest.apart {ks : List Nat} (hs : ks.Pairwise (· < ·)) (hb : ∀ k ∈ ks, k < 2 ^ 48) {x s t ap : Nat} (n : Nearest ks x s t) (ha : IsApart (nearKs ks (clN (ssOf ks) (skN x (psOf ks)))) x ap) : Nat.log2 ap = t ∧ 0 < ap := by
  obtain ⟨k, hk, hup⟩ := n.near hs hb
  obtain ⟨⟨k1, hk1, e1⟩, hle⟩ := ha
  have h1 := n.least k1 (near_sub hk1)
  rw [e1] at h1
  have h2 := hle k hk
  have h3 : k ^^^ x < 2 ^ (t + 1) := by
    have e : (k ^^^ x) / 2 ^ (t + 1) = 0 := by rw [Nat.xor_div_two_pow, hup, Nat.xor_self]
    rcases Nat.div_eq_zero_iff.mp e with h | h
    · exact absurd h (Nat.ne_of_gt (Nat.two_pow_pos _))
    · exact h
  have h0 : 0 < ap := Nat.lt_of_lt_of_le (Nat.two_pow_pos _) h1
  exact ⟨(Nat.log2_eq_iff (by omega)).mpr ⟨h1, by omega⟩, h0⟩
end Mine
end

theorem Mine.calmP13 : True := by
  w_top off
  k_with_none
  k_with "k_ne" => (refine neN ?_; (try dsimp only); first | with_reducible assumption | with_reducible exact Ne.symm (by assumption))
  exact True.intro
section
open PySem
namespace Mine
theorem sub_div {p n : Nat} (hn : 0 < n) : (n * 2 ^ p - 1) / 2 ^ p = n - 1 := by
  have h2 := Nat.two_pow_pos p
  obtain ⟨k, rfl⟩ : ∃ k, n = k + 1 := ⟨n - 1, by omega⟩
  have e : (k + 1) * 2 ^ p - 1 = 2 ^ p * k + (2 ^ p - 1) := by
    rw [Nat.add_mul, Nat.one_mul, Nat.mul_comm k]
    omega
  rw [e, Nat.mul_add_div h2, Nat.div_eq_of_lt (by omega)]
  omega

theorem pow_split {p t : Nat} (h : p < t) (m : Nat) : m * 2 ^ t = m * 2 ^ (t - p - 1) * 2 * 2 ^ p := by
  rw [Nat.mul_assoc, Nat.mul_assoc]
  congr 1
  rw [← Nat.pow_succ', ← Nat.pow_add]
  congr 1
  omega

theorem odd_pos {m : Nat} (h : m % 2 = 1) : 0 < m := by omega
theorem odd_half {m : Nat} (h : m % 2 = 1) : (m - 1) / 2 = m / 2 ∧ (m - 1) % 2 = 0 := by omega

theorem odd_y {x t : Nat} (ho : x / 2 ^ t % 2 = 1) :
    (x / 2 ^ t * 2 ^ t - 1) / 2 ^ (t + 1) = x / 2 ^ (t + 1) ∧ (x / 2 ^ t * 2 ^ t - 1) / 2 ^ t % 2 = 0 ∧ ∀ p, p < t → (x / 2 ^ t * 2 ^ t - 1) / 2 ^ p % 2 = 1 := by
  have e := sub_div (p := t) (n := x / 2 ^ t) (odd_pos ho)
  refine ⟨?_, ?_, fun p hp => ?_⟩
  · rw [div_step, div_step, e]; exact (odd_half ho).1
  · rw [e]; exact (odd_half ho).2
  · have h1 : 0 < x / 2 ^ t * 2 ^ (t - p - 1) := Nat.mul_pos (odd_pos ho) (Nat.two_pow_pos _)
    rw [pow_split hp]
    generalize x / 2 ^ t * 2 ^ (t - p - 1) = z at h1
    rw [sub_div (by omega)]
    omega

theorem or_one {m : Nat} (h : ¬ m % 2 = 1) : (m ||| 1) = m + 1 := by
  have := or_two (m / 2) 1 (by omega)
  rw [show m / 2 * 2 = m by omega] at this
  omega

theorem even_y {x t : Nat} (ho : ¬ x / 2 ^ t % 2 = 1) :
    ((x / 2 ^ t ||| 1) * 2 ^ t) / 2 ^ (t + 1) = x / 2 ^ (t + 1) ∧ ((x / 2 ^ t ||| 1) * 2 ^ t) / 2 ^ t % 2 = 1 ∧ ∀ p, p < t → ((x / 2 ^ t ||| 1) * 2 ^ t) / 2 ^ p % 2 = 0 := by
  rw [or_one ho]
  have e : (x / 2 ^ t + 1) * 2 ^ t / 2 ^ t = x / 2 ^ t + 1 := Nat.mul_div_cancel _ (Nat.two_pow_pos _)
  refine ⟨?_, ?_, fun p hp => ?_⟩
  · rw [div_step, div_step, e]; omega
  · rw [e]; omega
  · rw [pow_split hp, Nat.mul_div_cancel _ (Nat.two_pow_pos _)]; omega

theorem count_odd {ks : List Nat} (hs : ks.Pairwise (· < ·)) (hb : ∀ k ∈ ks, k < 2 ^ 48) {x s t : Nat} (n : Nearest ks x s t) (ho : x / 2 ^ t % 2 = 1) :
    clN (ssOf ks) (skN (x / 2 ^ t * 2 ^ t - 1) (psOf ks) + 1) = clN ks x := by
  obtain ⟨y1, y2, y3⟩ := odd_y ho
  generalize x / 2 ^ t * 2 ^ t - 1 = y at y1 y2 y3
  rw [sk_cl]
  unfold clN
  apply List.countP_congr
  intro k hk
  simp only [decide_eq_true_eq]
  rcases n.cases hk with ⟨q, hq, h⟩ | ⟨q, hq, h⟩ | h | h
  · have := (n.below hs hb hk hq h y1).2
    have := h.lt
    omega
  · have := (n.above hs hb hk hq h y1).2
    have := h.lt
    omega
  · have hle : skN k (psOf ks) ≤ skN y (psOf ks) := by
      refine sk_le fun p _ => ?_
      rcases Nat.lt_trichotomy p t with g | g | g
      · have := y3 p g; omega
      · subst g; have := h.2.1; omega
      · exact Nat.le_of_eq (alike (h.1.trans y1.symm) g)
    have := h.lt
    omega
  · have := h.2.1; omega

theorem count_even {ks : List Nat} (hs : ks.Pairwise (· < ·)) (hb : ∀ k ∈ ks, k < 2 ^ 48) {x s t : Nat} (n : Nearest ks x s t) (ho : ¬ x / 2 ^ t % 2 = 1) :
    clN (ssOf ks) (skN ((x / 2 ^ t ||| 1) * 2 ^ t) (psOf ks)) = clN ks x := by
  obtain ⟨y1, y2, y3⟩ := even_y ho
  generalize (x / 2 ^ t ||| 1) * 2 ^ t = y at y1 y2 y3
  rw [sk_cl]
  unfold clN
  apply List.countP_congr
  intro k hk
  simp only [decide_eq_true_eq]
  rcases n.cases hk with ⟨q, hq, h⟩ | ⟨q, hq, h⟩ | h | h
  · have := (n.below hs hb hk hq h y1).2
    have := h.lt
    omega
  · have := (n.above hs hb hk hq h y1).2
    have := h.lt
    omega
  · have := h.2.2; omega
  · have hle : skN y (psOf ks) ≤ skN k (psOf ks) := by
      refine sk_le fun p _ => ?_
      rcases Nat.lt_trichotomy p t with g | g | g
      · have := y3 p g; omega
      · subst g; have := h.2.2; omega
      · exact Nat.le_of_eq (alike (y1.trans h.1) g)
    have := h.lt
    omega

theorem cr_none {ks : List Nat} {x : Nat} (hx : x ∉ ks) : crN ks x = clN ks x := by
  unfold crN clN
  apply List.countP_congr
  intro k hk
  have : k ≠ x := fun e => hx (e ▸ hk)
  simp only [decide_eq_true_eq]
  omega

theorem cr_own : ∀ {ks : List Nat}, ks.Pairwise (· < ·) → ∀ {x : Nat}, x ∈ ks → crN ks x = clN ks x + 1
  | [], _, x, hx => absurd hx List.not_mem_nil
  | a :: r, hs, x, hx => by
    obtain ⟨h1, h2⟩ := List.pairwise_cons.mp hs
    have c1 : crN (a :: r) x = crN r x + if a ≤ x then 1 else 0 := by unfold crN; rw [List.countP_cons]; simp
    have c2 : clN (a :: r) x = clN r x + if a < x then 1 else 0 := by unfold clN; rw [List.countP_cons]; simp
    rcases List.mem_cons.mp hx with rfl | hx
    · have e1 : crN r x = 0 := List.countP_eq_zero.mpr fun k hk => by have := h1 k hk; simp; omega
      have e2 : clN r x = 0 := List.countP_eq_zero.mpr fun k hk => by have := h1 k hk; simp; omega
      rw [c1, c2, e1, e2]; simp
    · have := cr_own h2 hx
      have := h1 x hx
      rw [c1, c2, if_pos (by omega), if_pos (by omega)]
      omega

theorem own_near {ks : List Nat} (hs : ks.Pairwise (· < ·)) {x : Nat} (hx : x ∈ ks) : IsApart (nearKs ks (clN ks x)) x 0 := by
  have h := (at_place hs x).mpr hx
  have hg : ks[clN ks x]? = some x := by
    have : ((ks.drop (clN ks x)).take 1)[0]? = some x := by rw [h]; rfl
    rw [List.getElem?_take_of_lt (by omega), List.getElem?_drop, Nat.add_zero] at this
    exact this
  obtain ⟨hlt, e⟩ := List.getElem?_eq_some_iff.mp hg
  refine ⟨⟨x, ?_, Nat.xor_self x⟩, fun k _ => Nat.zero_le _⟩
  have := near_mem (ks := ks) (r := clN ks x) hlt (.inl rfl)
  rw [get_at hlt] at hg
  rw [Option.some.inj hg] at this
  exact this
end Mine
end

theorem Mine.calmP14 : True := by
  w_top off
  k_with_none
  k_with "k_ne" => (refine neN ?_; (try dsimp only); first | with_reducible assumption | with_reducible exact Ne.symm (by assumption))
  exact True.intro
section
open PySem
namespace Mine
def onesN : Nat → Nat
  | 0 => 0
  | n + 1 => onesN n * 2 ^ 8 ||| 1
def packN : List Nat → Nat
  | [] => 0
  | s :: r => packN r * 2 ^ 8 ||| (128 + s)

theorem or_low {a b : Nat} (h : b < 256) : (a * 2 ^ 8 ||| b) = 256 * a + b := by
  have := Nat.two_pow_add_eq_or_of_lt (i := 8) (b := b) (by omega) a
  rw [Nat.mul_comm a, ← this]
theorem ones_succ (n : Nat) : onesN (n + 1) = 256 * onesN n + 1 := by rw [onesN, or_low (by omega)]
theorem pack_cons {s : Nat} {r : List Nat} (h : s < 64) : packN (s :: r) = 256 * packN r + (128 + s) := by rw [packN, or_low (by omega)]
theorem ones_lt : ∀ n, onesN n < 256 ^ n
  | 0 => by simp [onesN]
  | n + 1 => by
    have := ones_lt n
    rw [ones_succ, Nat.pow_succ]; omega
theorem pack_lt : ∀ ss : List Nat, (∀ s ∈ ss, s < 64) → packN ss < 256 ^ ss.length
  | [], _ => by simp [packN]
  | s :: r, h => by
    have := pack_lt r fun x hx => h x (List.mem_cons_of_mem _ hx)
    have := h s List.mem_cons_self
    rw [pack_cons this, List.length_cons, Nat.pow_succ]; omega
def fieldN (q : Nat) : List Nat → Nat
  | [] => 0
  | s :: r => 256 * fieldN q r + (128 + s - q)
theorem pack_field {q : Nat} (hq : q ≤ 64) : ∀ {ss : List Nat}, (∀ s ∈ ss, s < 64) → packN ss = onesN ss.length * q + fieldN q ss
  | [], _ => by simp [packN, onesN, fieldN]
  | s :: r, h => by
    have ih := pack_field hq (ss := r) fun x hx => h x (List.mem_cons_of_mem _ hx)
    have := h s List.mem_cons_self
    rw [pack_cons this, List.length_cons, ones_succ, fieldN, ih, Nat.add_mul, Nat.one_mul, Nat.mul_add, Nat.mul_assoc]
    omega
theorem and_step {a b f g : Nat} (hf : f < 256) (hg : g < 256) : (256 * a + f &&& 256 * b + g) = 256 * (a &&& b) + (f &&& g) := by
  have h1 : (256 * a + f &&& 256 * b + g) / 2 ^ 8 = a &&& b := by
    rw [Nat.and_div_two_pow]
    congr 1 <;> omega
  have h2 : (256 * a + f &&& 256 * b + g) % 2 ^ 8 = f &&& g := by
    rw [Nat.and_mod_two_pow]
    congr 1 <;> omega
  omega
theorem and_128 : ∀ f : Nat, f < 256 → (f &&& 128) = if 128 ≤ f then 128 else 0 := by decide +kernel
theorem field_and {q : Nat} (hq : q ≤ 64) : ∀ {ss : List Nat}, (∀ s ∈ ss, s < 64) → (fieldN q ss &&& onesN ss.length * 128) = maskN q ss
  | [], _ => by simp [fieldN, onesN, maskN]
  | s :: r, h => by
    have ih := field_and hq (ss := r) fun x hx => h x (List.mem_cons_of_mem _ hx)
    have hs := h s List.mem_cons_self
    rw [fieldN, List.length_cons, ones_succ, Nat.add_mul, Nat.mul_assoc, Nat.one_mul, and_step (by omega) (by omega), ih, and_128 _ (by omega), maskN]
    congr 1
    by_cases h1 : q ≤ s
    · rw [if_pos h1, if_pos (by omega)]
    · rw [if_neg h1, if_neg (by omega)]
/-- what _law_below wants to know of the packed sketches -/
theorem pack_mask {q : Nat} (hq : q ≤ 64) {ss : List Nat} (h : ∀ s ∈ ss, s < 64) :
    Builtin.bitAnd (((packN ss : Nat) : Int) - ((onesN ss.length : Nat) : Int) * (q : Int)) (((onesN ss.length : Nat) : Int) * 128) = ((maskN q ss : Nat) : Int) := by
  have e1 : ((packN ss : Nat) : Int) - ((onesN ss.length : Nat) : Int) * (q : Int) = ((fieldN q ss : Nat) : Int) := by
    rw [pack_field hq h]
    push_cast
    omega
  have e2 : ((onesN ss.length : Nat) : Int) * 128 = ((onesN ss.length * 128 : Nat) : Int) := by push_cast; rfl
  rw [e1, e2, bitAnd_nat, field_and hq h]
theorem mask_ranks {q : Nat} {ss : List Nat} (h : ss.Pairwise (· < ·)) : hexW (maskN q ss) = maskW (ss.countP (fun s => decide (q ≤ s))) (clN ss q) ∧ ss.countP (fun s => decide (q ≤ s)) + clN ss q = ss.length := by
  refine ⟨(maskN_word q ss (h.imp Nat.le_of_lt)).1, ?_⟩
  unfold clN
  rw [Nat.add_comm]
  have := List.length_eq_countP_add_countP (fun s => decide (s < q)) (l := ss)
  rw [this]
  congr 1
  apply List.countP_congr
  intro s _
  simp
theorem mask_small {q : Nat} {ss : List Nat} (h : ss.length ≤ 7) : maskN q ss < 16 ^ 16 := by
  refine Nat.lt_of_lt_of_le (maskN_lt q ss) ?_
  exact Nat.le_trans (Nat.pow_le_pow_right (by omega) h) (by decide)
theorem ones_small {n : Nat} (h : n ≤ 7) : onesN n < 18446744073709551616 := by
  refine Nat.lt_of_lt_of_le (ones_lt n) ?_
  exact Nat.le_trans (Nat.pow_le_pow_right (by omega) h) (by decide)
theorem pack_small {ss : List Nat} (hs : ∀ s ∈ ss, s < 64) (h : ss.length ≤ 7) : packN ss < 18446744073709551616 := by
  refine Nat.lt_of_lt_of_le (pack_lt ss hs) ?_
  exact Nat.le_trans (Nat.pow_le_pow_right (by omega) h) (by decide)
theorem sk_small {ks : List Nat} (hl : ks.length ≤ 7) (x : Nat) : skN x (psOf ks) < 64 := by
  refine Nat.lt_of_lt_of_le (skN_lt x (psOf ks)) ?_
  have := ps_length ks
  exact Nat.pow_le_pow_right (n := 2) (by omega) (show (psOf ks).length ≤ 6 by omega)
theorem ss_small {ks : List Nat} (hl : ks.length ≤ 7) : ∀ s ∈ ssOf ks, s < 64 := by
  intro s hs
  obtain ⟨k, _, rfl⟩ := List.mem_map.mp hs
  exact sk_small hl k
theorem ss_length (ks : List Nat) : (ssOf ks).length = ks.length := List.length_map ..
end Mine
end

theorem Mine.calmW16 : True := by
  w_top off
  k_with_none
  k_with "k_ne" => (refine neN ?_; (try dsimp only); first | with_reducible assumption | with_reducible exact Ne.symm (by assumption))
  exact True.intro
section
open PySem PySem.W PyProof.Rows PySem.Calls PySem.Spec PyProof.V
namespace Mine
theorem fmod_two (n : Nat) : Int.fmod (n : Int) 2 = ((n % 2 : Nat) : Int) := by
  rw [Int.fmod_eq_emod_of_nonneg _ (by omega)]; rfl
theorem log2_bound {a n : Nat} (h0 : 0 < a) (h : a < 2 ^ n) : Nat.log2 a < n := (Nat.log2_lt (by omega)).mpr h
theorem law_below_N {w : World} {mean : ExcName → Option Value} {mg mb : Str → Option Value} {ks : List Nat} (hs : ks.Pairwise (· < ·)) (hb : ∀ k ∈ ks, k < 2 ^ 48) (hl : ks.length ≤ 7) (x : Nat) (tp to ts tk : Tok) :
    Tells 3 w mean mg mb 132 [] [.int ((packN (ssOf ks) : Nat) : Int) tp, .int ((onesN ks.length : Nat) : Int) to, .int ((ks.length : Nat) : Int) ts, .int ((skN x (psOf ks) : Nat) : Int) tk] (fun v => ∃ t, v = .int ((clN (ssOf ks) (skN x (psOf ks)) : Nat) : Int) t) := by
  have hsm := sk_small hl x
  have hm := mask_ranks (q := skN x (psOf ks)) (ss_rising hs hb)
  have hz := pack_mask (q := skN x (psOf ks)) (by omega) (ss_small hl)
  have hn := mask_small (q := skN x (psOf ks)) (ss := ssOf ks) (by rw [ss_length]; exact hl)
  have ho := ones_small hl
  rw [ss_length] at hm hz
  exact law_below_tells (by omega) (by omega) (by omega) (by omega) hz hn hm.1 (by omega) (by omega) tp to ts tk
section
variable {w : World} {mean : ExcName → Option Value} {mg mb : Str → Option Value} {l lp : Addr} {vs vps : List Value} {ks : List Nat} {c cp : Nat}
theorem law_place_N (hi : IntsAre vs (zs ks)) (hip : IntsAre vps (zs (psOf ks))) (hs : ks.Pairwise (· < ·)) (hb : ∀ k ∈ ks, k < 2 ^ 48) (h0 : 0 < ks.length) (hl : ks.length ≤ 7)
   {x : Nat} (hx : x < 2 ^ 49) (tn tp to tx : Tok)
   {dp un : Nat} {gd : Option (List Code)} {cn : Str} {cs : Scope} {ad : Addr} {ccd : Value} {cls : List (Str × Addr)} {outer : List Env} {A₀ : Around} {base h₀ : Heap} {L : Addr} {m : Str → Option Value} {news : List (Addr × Obj)} {s : Shared} {Q E : Value → Shared → Prop}
    (B : Below A₀ base outer h₀) (F : Fr h₀ L s.heap m) (X : (KK w).In h₀) (N0 : News h₀ L s.heap news) (hm1 : (l, listOf vs.toArray c) ∈ news) (hm2 : (lp, listOf vps.toArray cp) ∈ news) (T : TopH mean mg mb h₀) (hk : cs.kind = .function)
    (hd : dp + 8 < recursionLimit) (hu : un + 64 < cLine)
    (hret : ∀ D us h' tk', IntsAre us [((clN ks x : Nat) : Int), ((crN ks x : Nat) : Int)] → Fr h₀ L h' m → News h₀ L h' ((D, listOf us.toArray 0) :: news) → Q (.ref D) { s with heap := h', toks := tk' }) :
    wpAny (model prg w) (ktrTop dp un gd cn cs L ad ccd cls outer) (call (.ref 137) [.int ((clN (ssOf ks) (skN x (psOf ks)) : Nat) : Int) tn, .ref l, .ref lp, .int ((packN (ssOf ks) : Nat) : Int) tp, .int ((onesN ks.length : Nat) : Int) to, .int (x : Int) tx]) Q E s := by
  have hpl : (psOf ks).length ≤ 7 := by have := ps_length ks; omega
  have hpp : ∀ p ∈ psOf ks, p < 64 := fun p hp => by have := ps_lt hp; omega
  have hr : clN (ssOf ks) (skN x (psOf ks)) ≤ ks.length := by
    have : clN (ssOf ks) (skN x (psOf ks)) ≤ (ssOf ks).length := List.countP_le_length
    rwa [ss_length] at this
  have ho := ones_small hl
  have hpos := near_pos h0 hr
  have hpow : (2 : Nat) ^ 49 < 18446744073709551616 := by decide
  by_cases hx1 : x ∈ ks
  · rw [cr_own hs hx1] at hret
    have e := own_rank hs hb hx1
    rw [e] at hr ⊢
    refine law_place_0 hi hip h0 hl hpl hpp hr (own_near hs hx1) tn tp to tx B F X N0 hm1 hm2 T hk hd hu fun D us h' tk' hI => hret D us h' tk' ?_
    simpa using hI
  · rw [cr_none hx1] at hret
    obtain ⟨s', t, n⟩ := nearest_ex h0 hx1
    obtain ⟨ap, ha⟩ := apart_ex x hpos
    obtain ⟨htop, hap0⟩ := n.apart hs hb ha
    have hap1 : ap < 2 ^ 49 := by
      obtain ⟨⟨k, hk, e⟩, _⟩ := ha
      rw [← e]
      exact Nat.xor_lt_two_pow (Nat.lt_trans (hb k (near_sub hk)) (by decide)) hx
    have ht : t < 49 := by rw [← htop]; exact log2_bound hap0 hap1
    have hdl := Nat.div_le_self x (2 ^ t)
    have h16 : (2 : Nat) ^ 49 < 16 ^ 16 := by decide
    by_cases hodd : x / 2 ^ t % 2 = 1
    · have hq := sk_small hl (x / 2 ^ t * 2 ^ t - 1)
      have hm := mask_ranks (q := skN (x / 2 ^ t * 2 ^ t - 1) (psOf ks) + 1) (ss_rising hs hb)
      have hz := pack_mask (q := skN (x / 2 ^ t * 2 ^ t - 1) (psOf ks) + 1) (by omega) (ss_small hl)
      have hn := mask_small (q := skN (x / 2 ^ t * 2 ^ t - 1) (psOf ks) + 1) (ss := ssOf ks) (by rw [ss_length]; exact hl)
      rw [ss_length] at hm hz
      rw [count_odd hs hb n hodd] at hm
      push_cast at hz
      exact law_place_odd hi hip h0 hl hpl hpp hr ha hap0 (by omega) htop (by omega) (by omega) (by rw [fmod_two, hodd]; rfl) (Nat.mul_pos (odd_pos hodd) (Nat.two_pow_pos _)) (by omega) (by omega) (by omega) (by omega) hz hn hm.1 (by omega) (by omega) tn tp to tx B F X N0 hm1 hm2 T hk hd hu hret
    · have hq := sk_small hl ((x / 2 ^ t ||| 1) * 2 ^ t)
      have hm := mask_ranks (q := skN ((x / 2 ^ t ||| 1) * 2 ^ t) (psOf ks)) (ss_rising hs hb)
      have hz := pack_mask (q := skN ((x / 2 ^ t ||| 1) * 2 ^ t) (psOf ks)) (by omega) (ss_small hl)
      have hn := mask_small (q := skN ((x / 2 ^ t ||| 1) * 2 ^ t) (psOf ks)) (ss := ssOf ks) (by rw [ss_length]; exact hl)
      rw [ss_length] at hm hz
      rw [count_even hs hb n hodd] at hm
      have h1 : (x / 2 ^ t ||| 1) < 18446744073709551616 := by rw [or_one hodd]; omega
      exact law_place_even hi hip h0 hl hpl hpp hr ha hap0 (by omega) htop (by omega) h1 (by rw [fmod_two]; omega) (by omega) (by omega) (by omega) (by omega) hz hn hm.1 (by omega) (by omega) tn tp to tx B F X N0 hm1 hm2 T hk hd hu hret
end
end Mine
end

theorem Mine.calmW17 : True := by
  w_top off
  k_with_none
  k_with "k_ne" => (refine neN ?_; (try dsimp only); first | with_reducible assumption | with_reducible exact Ne.symm (by assumption))
  exact True.intro
section
open PySem PySem.W PyProof.Rows PySem.Calls PySem.Spec PyProof.V
namespace Mine
section
variable {w : World} {mean : ExcName → Option Value} {mg mb : Str → Option Value}
theorem xor_nat {a b : Nat} (ta tb : Tok) : Tells 1 w mean mg mb 21 [] [.int (a : Int) ta, .int (b : Int) tb] (fun v => ∃ t, v = .int ((a ^^^ b : Nat) : Int) t) := by
  have h := xor_tells (w := w) (mean := mean) (mg := mg) (mb := mb) (a : Int) (b : Int) ta tb
  rw [bitXor_nat] at h
  exact h
theorem ior_nat {a b : Nat} (ta tb : Tok) : Tells 1 w mean mg mb 63 [] [.int (a : Int) ta, .int (b : Int) tb] (fun v => ∃ t, v = .int ((a ||| b : Nat) : Int) t) := by
  have h := ior_tells (w := w) (mean := mean) (mg := mg) (mb := mb) (a : Int) (b : Int) ta tb
  rw [bitOr_nat] at h
  exact h
theorem ilshift_1 {t : Nat} (ht : t ≤ 64) (tx tt : Tok) : Tells 1 w mean mg mb 49 [] [.int 1 tx, .int (t : Int) tt] (fun v => ∃ u, v = .int ((1 * 2 ^ t : Nat) : Int) u) :=
  ilshift_nat (x := 1) ht (by decide) tx tt
theorem getD_zs (ks : List Nat) (i : Nat) : (zs ks).getD i 0 = ((ks.getD i 0 : Nat) : Int) := by
  rw [List.getD_eq_getElem?_getD, List.getD_eq_getElem?_getD, List.getElem?_map]
  cases ks[i]? <;> rfl
theorem xor_keys {ks : List Nat} {i : Nat} (ta tb : Tok) : Tells 1 w mean mg mb 21 [] [.int (List.getD (zs ks) (Int.toNat (1 + (i : Int) - 1)) 0) ta, .int (List.getD (zs ks) (Int.toNat (1 + (i : Int))) 0) tb] (fun v => ∃ t, v = .int ((ks.getD i 0 ^^^ ks.getD (i + 1) 0 : Nat) : Int) t) := by
  rw [show Int.toNat (1 + (i : Int) - 1) = i by omega, show Int.toNat (1 + (i : Int)) = i + 1 by omega, getD_zs, getD_zs]
  exact xor_nat ta tb
theorem fork_step {ks : List Nat} (hs : ks.Pairwise (· < ·)) (hb : ∀ k ∈ ks, k < 2 ^ 48) {i : Nat} (hi : i < ks.length - 1) :
    0 < ks.getD i 0 ^^^ ks.getD (i + 1) 0 ∧ ks.getD i 0 ^^^ ks.getD (i + 1) 0 < 16 ^ 16 ∧ Nat.log2 (ks.getD i 0 ^^^ ks.getD (i + 1) 0) = topN ks i ∧ topN ks i ≤ 64 := by
  have h := rise_at hs (i := i) (j := i + 1) (by omega) (by omega)
  have hp := parts_of h
  have h1 := (xor_top hp).2
  have h2 : ks.getD i 0 ^^^ ks.getD (i + 1) 0 < 2 ^ 48 := Nat.xor_lt_two_pow (at_bound hb i) (at_bound hb (i + 1))
  have h3 : (2 : Nat) ^ 48 < 16 ^ 16 := by decide
  have h4 : topN ks i < 48 := log2_bound h1 h2
  exact ⟨h1, by omega, rfl, by omega⟩
theorem small_range {n : Nat} (h : n ≤ 4096) : Builtin.Range.small 1 (n : Int) 1 = true := by
  exact small_one (by omega) (by omega) (by omega) (by omega)
theorem size_range {n : Nat} (h : 0 < n) : Builtin.Range.rangeSize 1 (n : Int) 1 = ((n - 1 : Nat) : Int) := by
  unfold Builtin.Range.rangeSize
  simp
  omega
end
theorem rulesW17_0 : True := by
  k_with "call ref" => (k_here; (with_reducible show wpAny _ _ (call (Value.ref 21) _) _ _ _); k_dflt (refine' Tells.use ?k1 ?k2 ?k3 ?k4 ?k5 ?kK (xor_keys _ _) ?kn ?kd ?ku ?_); (case k1 => k_asm); (case k2 => k_asm); (case k3 => k_asm); (case k4 => k_asm); (case k5 => k_asm); (case kK => exact rfl); (case kn => exact need0); (case kd => ktr_room); (case ku => ktr_units); intro v' h' tk' hR F' N'; obtain ⟨t', hE'⟩ := hR; subst hE'; (try dsimp only))
  k_with "call ref" => (k_here; (with_reducible show wpAny _ _ (call (Value.ref 63) _) _ _ _); k_dflt (refine' Tells.use ?k1 ?k2 ?k3 ?k4 ?k5 ?kK (ior_nat _ _) ?kn ?kd ?ku ?_); (case k1 => k_asm); (case k2 => k_asm); (case k3 => k_asm); (case k4 => k_asm); (case k5 => k_asm); (case kK => exact rfl); (case kn => exact need0); (case kd => ktr_room); (case ku => ktr_units); intro v' h' tk' hR F' N'; obtain ⟨t', hE'⟩ := hR; subst hE'; (try dsimp only))
  k_with "call ref" => (k_here; (with_reducible show wpAny _ _ (call (Value.ref 49) _) _ _ _); k_dflt (refine' Tells.use ?k1 ?k2 ?k3 ?k4 ?k5 ?kK (ilshift_1 ?b0 _ _) ?kn ?kd ?ku ?_); (case k1 => k_asm); (case k2 => k_asm); (case k3 => k_asm); (case k4 => k_asm); (case k5 => k_asm); (case kK => exact rfl); (case kn => exact need0); (case kd => ktr_room); (case ku => ktr_units); (case b0 => assumption); intro v' h' tk' hR F' N'; obtain ⟨t', hE'⟩ := hR; subst hE'; (try dsimp only))
  k_with "call ref" => (k_here; (with_reducible show wpAny _ _ (call (Value.ref 118) _) _ _ _); k_dflt (refine' Tells.use ?k1 ?k2 ?k3 ?k4 ?k5 ?kK (law_top_t (by assumption) (by assumption) (by assumption) _) ?kn ?kd ?ku ?_); (case k1 => k_asm); (case k2 => k_asm); (case k3 => k_asm); (case k4 => k_asm); (case k5 => k_asm); (case kK => exact rfl); (case kn => exact need0); (case kd => ktr_room); (case ku => ktr_units); intro v' h' tk' hR F' N'; obtain ⟨t', hE'⟩ := hR; subst hE'; (try dsimp only))
  exact True.intro
set_option maxRecDepth 100000 in
set_option maxHeartbeats 8000000 in
theorem seg5 {w : World} {mean : ExcName → Option Value} {mg mb : Str → Option Value} {dp un : Nat} {gd : Option (List Code)} {L fa : Addr} {ccd : Value} {outer : List Env} {A₀ : Around} {base h₀ : Heap} {m : Str → Option Value} {s : Shared} {Q : Flow → Shared → Prop} {E : Value → Shared → Prop}
    {lk ld : Addr} {vk vd : List Value} {ks : List Nat} {ck cd : Nat} {ox of op : Obj} {ls : Value} {t0 : Tok}
    (B : Below A₀ base outer h₀) (F : Fr h₀ L s.heap m) (X : (KK w).In h₀) (N : News h₀ L s.heap (ledK L lk ld vk vd ck cd ox of op)) (T : TopH mean mg mb h₀) (hd : dp + 16 < recursionLimit) (hu : un + 128 < cLine)
    (hm1 : m (Str.ofString "keys") = some (.ref lk)) (hm3 : m (Str.ofString "script") = some ls) (hik : IntsAre vk (zs ks)) (hkl : ks.length ≤ 7) (hk0 : 0 < ks.length) (hks : ks.Pairwise (· < ·)) (hb : ∀ k ∈ ks, k < 2 ^ 48) (hof : of.data = .cell (some (.int 0 t0)))
    (hne : @Ne Nat lk ld ∧ @Ne Nat lk (L + 1 + 1 + 1) ∧ @Ne Nat lk (L + 1 + 1) ∧ @Ne Nat lk (L + 1) ∧ @Ne Nat ld (L + 1 + 1 + 1) ∧ @Ne Nat ld (L + 1 + 1) ∧ @Ne Nat ld (L + 1))
    (next : ∀ h' tk' m' of' t', Fr h₀ L h' m' → News h₀ L h' (ledK L lk ld vk vd ck cd ox of' op) → of'.data = .cell (some (.int ((forkN ks (ks.length - 1) : Nat) : Int) t')) → m' (Str.ofString "keys") = some (.ref lk) → m' (Str.ofString "script") = some ls → Q .next { s with heap := h', toks := tk' })
    (hE : PassesOwn (model prg w) (lawA dp un gd L fa ccd outer) (lawEnv L fa ccd) E) :
    wpAny (model prg w) (lawA dp un gd L fa ccd outer) (exec (lawStmt 5) (lawEnv L fa ccd)) Q E s := by
  revert X T
  unfold prg KK TopH
  k_fill
  intro X T
  conv => enter [3, 1]; whnf
  have hvk : vk.length = ks.length := by have := hik.length; rw [List.length_map] at this; exact this
  refine For_range (h₀ := h₀) (m := m) (news := ledK L lk ld vk vd ck cd ox of op) (a := 1) (b := (ks.length : Nat)) (n := ks.length - 1) rfl [lk, ld, L + 1 + 1 + 1, L + 1 + 1, L + 1]
    (fun i m' nx => ∃ of' t, nx = ledK L lk ld vk vd ck cd ox of' op ∧ of'.data = .cell (some (.int ((forkN ks i : Nat) : Int) t)) ∧ m' (Str.ofString "keys") = some (.ref lk) ∧ m' (Str.ofString "script") = some ls)
    ?hadr ?hsm ?hn ?he ?h0 ?step ?done ?hs ?ht hE
  case hs => intro _; rfl
  case ht => intro _ _; rfl
  case hadr => rintro i m' nx ⟨of', t, rfl, _⟩; rfl
  case h0 => exact ⟨of, t0, rfl, hof, hm1, hm3⟩
  case hsm => exact small_range (by omega)
  case hn => exact size_range hk0
  case done =>
    rintro h' tk m' nx ⟨of', t, rfl, h1, h2, h3⟩ F' N'
    exact next h' tk m' of' t F' N' h1 h2 h3
  case he =>
    intro Q' hQ'
    have F1 := fr_know F [(Str.ofString "keys", .ref lk)] (by simpa using hm1)
    dsimp only [kstB] at F1
    k_steps
    rename IsRange _ _ _ _ _ _ _ _ => hr
    rw [List.length_map] at hr
    exact hQ' _ _ _ _ _ _ (fr_back (ps := [(Str.ofString "keys", .ref lk)]) (by assumption) (by simpa using hm1)) (by assumption) hr
  case step =>
    rintro i t m₁ nx h tk ⟨it1, it2⟩ hi ⟨of', t1, rfl, h1, h2, h3⟩ hit F1 N1
    have F2 := fr_know F1 [(Str.ofString "keys", .ref lk)] (by simpa using h2)
    dsimp only [kstB] at F2
    clear F1
    simp only [List.forall_mem_cons, List.not_mem_nil, false_implies, implies_true, and_true] at hit
    obtain ⟨i1, i2, i3, i4, i5⟩ := hit
    obtain ⟨g1, g2, g3, g4⟩ := fork_step hks hb hi
    obtain ⟨n1, n2, n3, n4, n5, n6, n7⟩ := hne
    change @Ne Addr _ _ at n1 n2 n3 n4 n5 n6 n7
    k_steps
    apply AnyPost.next (ledK L lk ld vk vd ck cd ox _ op)
    · assumption
    · assumption
    · intro p hp; repeat (first | exact hp | refine List.mem_cons_of_mem _ ?_)
    · exact ⟨_, _, rfl, by assumption, by with_unfolding_all rfl, by with_unfolding_all exact h3⟩
end Mine
end

theorem Mine.calmW18 : True := by
  w_top off
  k_with_none
  k_with "k_ne" => (refine neN ?_; (try dsimp only); first | with_reducible assumption | with_reducible exact Ne.symm (by assumption))
  exact True.intro
section
open PySem PySem.W PyProof.Rows PySem.Calls PySem.Spec PyProof.V
namespace Mine
theorem fold_filter {P : Int → Prop} [DecidablePred P] : ∀ (xs acc : List Int), List.foldl (fun l' k' => if P k' then l' ++ [k'] else l') acc xs = acc ++ xs.filter (fun k => decide (P k))
  | [], acc => by simp
  | x :: xs, acc => by
    rw [List.foldl_cons, fold_filter xs, List.filter_cons]
    by_cases h : P x
    · simp [h]
    · simp [h]
theorem le64 {k : Int} (h : k < 0 + ((Int.toNat (48 - 0) : Nat) : Int)) : k ≤ 64 := by
  have e : ((Int.toNat (48 - 0) : Nat) : Int) = 48 := rfl
  omega
theorem range48 : rangeKs 0 (Int.toNat (48 - 0)) = zs (List.range 48) := by decide +kernel
theorem places_fold (f : Nat) : List.foldl (fun l' k' => if Int.fmod (Int.fdiv (f : Int) (2 ^ Int.toNat k')) 2 = 1 then l' ++ [k'] else l') [] (rangeKs 0 (Int.toNat (48 - 0))) = zs (placesN f) := by
  rw [fold_filter, range48, List.nil_append]
  unfold placesN zs
  rw [List.filter_map]
  congr 1
  apply List.filter_congr
  intro p _
  simp only [Function.comp_apply, Int.toNat_natCast, fdiv_nat, fmod_two]
  congr 1
  exact propext ⟨fun h => by omega, fun h => by omega⟩
theorem rulesW18_0 : True := by
  k_with "call ref" => (k_here; (with_reducible show wpAny _ _ (call (Value.ref 70) _) _ _ _); k_dflt (refine' Tells.use ?k1 ?k2 ?k3 ?k4 ?k5 ?kK (irshift_tells _ _ _ _ ?b0 ?b1) ?kn ?kd ?ku ?_); (case k1 => k_asm); (case k2 => k_asm); (case k3 => k_asm); (case k4 => k_asm); (case k5 => k_asm); (case kK => exact rfl); (case kn => exact need0); (case kd => ktr_room); (case ku => ktr_units); (case b0 => assumption); (case b1 => exact le64 (by assumption)); intro v' h' tk' hR F' N'; obtain ⟨t', hE'⟩ := hR; subst hE'; (try dsimp only))
  k_with "k_ne" => ((with_reducible rename (_ ∧ _ ∧ _) ∧ (_ ∧ _ ∧ _) ∧ _ => hZ); with_reducible first | exact hZ.1.1 | exact hZ.1.2.1 | exact hZ.1.2.2 | exact hZ.2.1.1 | exact hZ.2.1.2.1 | exact hZ.2.1.2.2 | exact hZ.2.2.1.1 | exact hZ.2.2.1.2.1 | exact hZ.2.2.1.2.2 | exact hZ.2.2.2.1.1 | exact hZ.2.2.2.1.2.1 | exact hZ.2.2.2.1.2.2 | exact hZ.2.2.2.2.1 | exact hZ.2.2.2.2.2.1 | exact hZ.2.2.2.2.2.2 | exact Ne.symm hZ.1.1 | exact Ne.symm hZ.1.2.1 | exact Ne.symm hZ.1.2.2 | exact Ne.symm hZ.2.1.1 | exact Ne.symm hZ.2.1.2.1 | exact Ne.symm hZ.2.1.2.2 | exact Ne.symm hZ.2.2.1.1 | exact Ne.symm hZ.2.2.1.2.1 | exact Ne.symm hZ.2.2.1.2.2 | exact Ne.symm hZ.2.2.2.1.1 | exact Ne.symm hZ.2.2.2.1.2.1 | exact Ne.symm hZ.2.2.2.1.2.2 | exact Ne.symm hZ.2.2.2.2.1 | exact Ne.symm hZ.2.2.2.2.2.1 | exact Ne.symm hZ.2.2.2.2.2.2)
  k_with "k_ne" => ((with_reducible rename _ ≠ _ ∧ _ ≠ _ ∧ _ ≠ _ => hZ); with_reducible first | exact hZ.1 | exact hZ.2.1 | exact hZ.2.2 | exact Ne.symm hZ.1 | exact Ne.symm hZ.2.1 | exact Ne.symm hZ.2.2)
  exact True.intro
set_option maxRecDepth 100000 in
set_option maxHeartbeats 8000000 in
theorem seg6 {w : World} {mean : ExcName → Option Value} {mg mb : Str → Option Value} {dp un : Nat} {gd : Option (List Code)} {L fa : Addr} {ccd : Value} {outer : List Env} {A₀ : Around} {base h₀ : Heap} {m : Str → Option Value} {s : Shared} {Q : Flow → Shared → Prop} {E : Value → Shared → Prop}
    {lk ld : Addr} {vk vd : List Value} {ck cd : Nat} {ox of op : Obj} {f : Nat} {t0 : Tok} {vp : Option Value}
    (B : Below A₀ base outer h₀) (F : Fr h₀ L s.heap m) (X : (KK w).In h₀) (N : News h₀ L s.heap (ledK L lk ld vk vd ck cd ox of op)) (T : TopH mean mg mb h₀) (hd : dp + 16 < recursionLimit) (hu : un + 128 < cLine)
    (hof : of.data = .cell (some (.int (f : Int) t0))) (hop : op.data = .cell vp)
    (hne : @Ne Nat lk ld ∧ @Ne Nat lk (L + 1 + 1 + 1) ∧ @Ne Nat lk (L + 1 + 1) ∧ @Ne Nat lk (L + 1) ∧ @Ne Nat ld (L + 1 + 1 + 1) ∧ @Ne Nat ld (L + 1 + 1) ∧ @Ne Nat ld (L + 1))
    (next : ∀ h' tk' op' lp vps cp, Fr h₀ L h' m → News h₀ L h' ((lp, listOf vps.toArray cp) :: ledK L lk ld vk vd ck cd ox of op') → IntsAre vps (zs (placesN f)) → op'.data = .cell (some (.ref lp)) → (@Ne Nat lk lp ∧ @Ne Nat ld lp ∧ @Ne Nat (L + 1 + 1 + 1) lp ∧ @Ne Nat (L + 1 + 1) lp ∧ @Ne Nat (L + 1) lp) → Q .next { s with heap := h', toks := tk' }) :
    wpAny (model prg w) (lawA dp un gd L fa ccd outer) (exec (lawStmt 6) (lawEnv L fa ccd)) Q E s := by
  revert X T
  unfold prg KK TopH
  k_fill
  intro X T
  conv => enter [3, 1]; whnf
  obtain ⟨n1, n2, n3, n4, n5, n6, n7⟩ := hne
  change @Ne Addr _ _ at n1 n2 n3 n4 n5 n6 n7
  k_steps
  rename IntsAre _ _ => hI
  rename _ ∧ _ => hA
  obtain ⟨a1, a2, a3, a4, a5⟩ := hA
  rw [places_fold] at hI
  rename News _ _ _ _ => hN
  exact next _ _ _ _ _ _ (by assumption) hN hI (by assumption) ⟨neN a1, neN a2, neN a3, neN a4, neN a5⟩
end Mine
end

theorem Mine.calmW19 : True := by
  w_top off
  k_with_none
  k_with "k_ne" => (refine neN ?_; (try dsimp only); first | with_reducible assumption | with_reducible exact Ne.symm (by assumption))
  exact True.intro
section
open PySem PySem.W PyProof.Rows PySem.Calls PySem.Spec PyProof.V
namespace Mine
/-- the ledger once the places are known -/
abbrev ledP (L lk ld lp : Addr) (vk vd vp : List Value) (ck cd cp : Nat) (ox of op : Obj) : List (Addr × Obj) := (lp, listOf vp.toArray cp) :: ledK L lk ld vk vd ck cd ox of op
theorem law_sketch_I {w : World} {mean : ExcName → Option Value} {mg mb : Str → Option Value} {l : Addr} {vs : List Value} {ps ks : List Nat} {c : Nat} {k : Int} (hk : k ∈ zs ks) (hi : IntsAre vs (zs ps)) (hlen : ps.length ≤ 7) (hps : ∀ p ∈ ps, p < 64) (tx : Tok) :
    Tells 3 w mean mg mb 125 [(l, listOf vs.toArray c)] [.int k tx, .ref l] (fun v => ∃ t, v = .int ((skN k.toNat ps : Nat) : Int) t) := by
  obtain ⟨z, _, rfl⟩ := List.mem_map.mp hk
  rw [Int.toNat_natCast]
  exact law_sketch_tells l vs ps c hi hlen hps z tx
theorem sketch_map (ks ps : List Nat) : List.map (fun k : Int => ((skN (Int.toNat k) ps : Nat) : Int)) (zs ks) = zs (ks.map fun k => skN k ps) := by
  unfold zs
  rw [List.map_map, List.map_map]
  apply List.map_congr_left
  intro k _
  simp
theorem rulesW19_0 : True := by
  k_with "call ref" => (k_here; (with_reducible show wpAny _ _ (call (Value.ref 125) _) _ _ _); k_dflt (refine' Tells.use ?k1 ?k2 ?k3 ?k4 ?k5 ?kK (law_sketch_I ?hk ?hi ?hl ?hp _) ?kn ?kd ?ku ?_); (case k1 => k_asm); (case k2 => k_asm); (case k3 => k_asm); (case k4 => k_asm); (case k5 => k_asm); (case kK => exact rfl); (case kn => exact need1 (by k_mem)); (case kd => ktr_room); (case ku => ktr_units); (case hk => assumption); (case hi => assumption); (case hl => assumption); (case hp => assumption); intro v' h' tk' hR F' N'; obtain ⟨t', hE'⟩ := hR; subst hE'; (try dsimp only))
  exact True.intro
set_option maxRecDepth 100000 in
set_option maxHeartbeats 8000000 in
theorem seg7 {w : World} {mean : ExcName → Option Value} {mg mb : Str → Option Value} {dp un : Nat} {gd : Option (List Code)} {L fa : Addr} {ccd : Value} {outer : List Env} {A₀ : Around} {base h₀ : Heap} {m : Str → Option Value} {s : Shared} {Q : Flow → Shared → Prop} {E : Value → Shared → Prop}
    {lk ld lp : Addr} {vk vd vp : List Value} {ck cd cp : Nat} {ox of op : Obj} {ks ps : List Nat} {ls : Value}
    (B : Below A₀ base outer h₀) (F : Fr h₀ L s.heap m) (X : (KK w).In h₀) (N : News h₀ L s.heap (ledP L lk ld lp vk vd vp ck cd cp ox of op)) (T : TopH mean mg mb h₀) (hd : dp + 16 < recursionLimit) (hu : un + 128 < cLine)
    (hm1 : m (Str.ofString "keys") = some (.ref lk)) (hm3 : m (Str.ofString "script") = some ls) (hop : op.data = .cell (some (.ref lp))) (hik : IntsAre vk (zs ks)) (hip : IntsAre vp (zs ps)) (hkl : ks.length ≤ 7) (hpl : ps.length ≤ 7) (hpp : ∀ p ∈ ps, p < 64)
    (next : ∀ h' tk' m' lq vq cq, Fr h₀ L h' m' → News h₀ L h' ((lq, listOf vq.toArray cq) :: ledP L lk ld lp vk vd vp ck cd cp ox of op) → IntsAre vq (zs (ks.map fun k => skN k ps)) → m' (Str.ofString "keys") = some (.ref lk) → m' (Str.ofString "script") = some ls → m' (Str.ofString "sketches") = some (.ref lq) → (@Ne Nat lk lq ∧ @Ne Nat ld lq ∧ @Ne Nat lp lq ∧ @Ne Nat (L + 1 + 1 + 1) lq ∧ @Ne Nat (L + 1 + 1) lq ∧ @Ne Nat (L + 1) lq) → Q .next { s with heap := h', toks := tk' }) :
    wpAny (model prg w) (lawA dp un gd L fa ccd outer) (exec (lawStmt 7) (lawEnv L fa ccd)) Q E s := by
  revert X T
  unfold prg KK TopH
  k_fill
  intro X T
  have F2 := fr_know F [(Str.ofString "keys", .ref lk)] (by simpa using hm1)
  dsimp only [kstB] at F2
  clear F
  conv => enter [3, 1]; whnf
  k_steps
  rename IntsAre _ _ => hI
  rename _ ∧ _ => hA
  obtain ⟨a1, a2, a3, a4, a5, a6⟩ := hA
  rw [sketch_map] at hI
  rename News _ _ _ _ => hN
  rename Fr _ _ _ _ => hF
  exact next _ _ _ _ _ _ hF hN hI (by with_unfolding_all rfl) (by with_unfolding_all exact hm3) (by with_unfolding_all rfl) ⟨neN a2, neN a3, neN a1, neN a4, neN a5, neN a6⟩
end Mine
end

theorem Mine.calmW20 : True := by
  w_top off
  k_with_none
  k_with "k_ne" => (refine neN ?_; (try dsimp only); first | with_reducible assumption | with_reducible exact Ne.symm (by assumption))
  exact True.intro
section
open PySem PySem.W PyProof.Rows PySem.Calls PySem.Spec PyProof.V
namespace Mine
/-- the ledger once the sketches are known -/
abbrev ledQ (L lk ld lp lq : Addr) (vk vd vp vq : List Value) (ck cd cp cq : Nat) (ox of op : Obj) : List (Addr × Obj) := (lq, listOf vq.toArray cq) :: ledP L lk ld lp vk vd vp ck cd cp ox of op
theorem KeysOf.self {ks : List Nat} (h : ks.Pairwise (· < ·)) : KeysOf ks ks := ⟨h, fun _ => Iff.rfl, Nat.le_refl _⟩
theorem rulesW20_0 : True := by
  k_with "call type:set" => (k_here; (with_reducible show wpAny _ _ (call (Value.type "set") [Value.ref _]) _ _ _); k_dflt (refine' set_N ?k1 ?k2 ?kh ?kl ?ki ?kb ?_); (case k1 => k_asm); (case k2 => k_asm); (case kh => exact rfl); (case kl => k_mem); (case ki => assumption); (case kb => omega); intro h' tk' a' o' F' N' hS')
  k_with "call builtin:sorted" => (k_here; (with_reducible show wpAny _ _ (call (Value.builtin "sorted") [Value.ref _]) _ _ _); k_dflt (refine' sorted_N ?k1 ?k2 ?kh ?kl ?ki ?kk ?kb ?_); (case k1 => k_asm); (case k2 => k_asm); (case kh => exact rfl); (case kl => assumption); (case ki => k_mem); (case kk => assumption); (case kb => omega); intro h' tk' d' R' vs' c' F' N' hI')
  exact True.intro
set_option maxRecDepth 100000 in
set_option maxHeartbeats 8000000 in
theorem seg8 {w : World} {mean : ExcName → Option Value} {mg mb : Str → Option Value} {dp un : Nat} {gd : Option (List Code)} {L fa : Addr} {ccd : Value} {outer : List Env} {A₀ : Around} {base h₀ : Heap} {m : Str → Option Value} {s : Shared} {Q : Flow → Shared → Prop} {E : Value → Shared → Prop}
    {lk ld lp lq : Addr} {vk vd vp vq : List Value} {ck cd cp cq : Nat} {ox of op : Obj} {ss : List Nat}
    (B : Below A₀ base outer h₀) (F : Fr h₀ L s.heap m) (X : (KK w).In h₀) (N : News h₀ L s.heap (ledQ L lk ld lp lq vk vd vp vq ck cd cp cq ox of op)) (T : TopH mean mg mb h₀) (hd : dp + 16 < recursionLimit) (hu : un + 128 < cLine)
    (hm1 : m (Str.ofString "sketches") = some (.ref lq)) (hi : IntsAre vq (zs ss)) (hsl : ss.length ≤ 7) (hs : ss.Pairwise (· < ·))
    (next : ∀ h' tk' dr', Fr h₀ L h' m → News h₀ L h' (ledQ L lk ld lp lq vk vd vp vq ck cd cp cq ox of op) → Q .next { s with heap := h', toks := tk', drawn := dr' }) :
    wpAny (model prg w) (lawA dp un gd L fa ccd outer) (exec (lawStmt 8) (lawEnv L fa ccd)) Q E s := by
  revert X T
  unfold prg KK TopH
  k_fill
  intro X T
  have hk := KeysOf.self hs
  have F2 := fr_know F [(Str.ofString "sketches", .ref lq)] (by simpa using hm1)
  dsimp only [kstB] at F2
  clear F
  conv => enter [3, 1]; whnf
  k_steps
  refine next _ _ _ (fr_back (ps := [(Str.ofString "sketches", .ref lq)]) (by assumption) (by simpa using hm1)) ?_
  intro p hp
  exact (by assumption : News h₀ L _ (_ :: _ :: ledQ L lk ld lp lq vk vd vp vq ck cd cp cq ox of op)) p (.tail _ (.tail _ hp))
end Mine
end

theorem Mine.calmW21 : True := by
  w_top off
  k_with_none
  k_with "k_ne" => (refine neN ?_; (try dsimp only); first | with_reducible assumption | with_reducible exact Ne.symm (by assumption))
  exact True.intro
section
open PySem PySem.W PyProof.Rows PySem.Calls PySem.Spec PyProof.V
namespace Mine
abbrev PkInv (pre : List Int) (ones packed : Int) : Prop := 0 ≤ ones ∧ ones < 18446744073709551616 ∧ 0 ≤ packed ∧ packed < 18446744073709551616 ∧ ones = ((onesN pre.length : Nat) : Int) ∧ packed = ((packN (pre.reverse.map Int.toNat) : Nat) : Int)
theorem pk_start : PkInv [] 0 0 := ⟨by omega, by omega, by omega, by omega, rfl, rfl⟩
theorem pk_turn {ss : List Nat} {pre post : List Int} {n ones packed : Int} (hlen : ss.length ≤ 7) (hp : ∀ s ∈ ss, s < 64) (he : (zs ss).reverse = pre ++ n :: post) (h1 : ones = ((onesN pre.length : Nat) : Int)) (h2 : packed = ((packN (pre.reverse.map Int.toNat) : Nat) : Int)) :
    PkInv (pre ++ [n]) (Builtin.bitOr (ones * 2 ^ Int.toNat 8) 1) (Builtin.bitOr (packed * 2 ^ Int.toNat 8) (128 + n)) := by
  have hall : ∀ z ∈ pre ++ [n], ∃ s ∈ ss, z = ((s : Nat) : Int) := fun z hz => by
    have : z ∈ (zs ss).reverse := by
      rw [he]
      rcases List.mem_append.mp hz with h | h
      · exact List.mem_append_left _ h
      · rw [List.mem_singleton] at h; subst h; simp
    rw [List.mem_reverse] at this
    obtain ⟨s, hs, e⟩ := List.mem_map.mp this
    exact ⟨s, hs, e.symm⟩
  obtain ⟨q, hq, rfl⟩ := hall n (by simp)
  have hl : (pre ++ [(q : Int)]).length ≤ 7 := by
    have := congrArg List.length he
    simp at this
    simp; omega
  have hsm : ∀ s ∈ (pre ++ [(q : Int)]).reverse.map Int.toNat, s < 64 := fun s hs => by
    obtain ⟨z, hz, rfl⟩ := List.mem_map.mp hs
    rw [List.mem_reverse] at hz
    obtain ⟨s', hs', rfl⟩ := hall z hz
    rw [Int.toNat_natCast]
    exact hp s' hs'
  have e1 : ones * 2 ^ Int.toNat 8 = ((onesN pre.length * 2 ^ 8 : Nat) : Int) := by rw [h1, Int.natCast_mul]; rfl
  have e2 : packed * 2 ^ Int.toNat 8 = ((packN (pre.reverse.map Int.toNat) * 2 ^ 8 : Nat) : Int) := by rw [h2, Int.natCast_mul]; rfl
  have e3 : (128 : Int) + (q : Int) = ((128 + q : Nat) : Int) := by push_cast; rfl
  have g1 : Builtin.bitOr (ones * 2 ^ Int.toNat 8) 1 = ((onesN (pre ++ [(q : Int)]).length : Nat) : Int) := by
    rw [e1, show (1 : Int) = ((1 : Nat) : Int) from rfl, bitOr_nat, List.length_append]
    rfl
  have g2 : Builtin.bitOr (packed * 2 ^ Int.toNat 8) (128 + (q : Int)) = ((packN ((pre ++ [(q : Int)]).reverse.map Int.toNat) : Nat) : Int) := by
    rw [e2, e3, bitOr_nat, List.reverse_append, List.reverse_singleton, List.singleton_append, List.map_cons, Int.toNat_natCast]
    rfl
  have b1 := ones_small hl
  have b2 := pack_small hsm (by rw [List.length_map, List.length_reverse]; exact hl)
  rw [g1, g2]
  exact ⟨by omega, by omega, by omega, by omega, rfl, rfl⟩
theorem pk_end {ss : List Nat} {ones packed : Int} (h1 : ones = ((onesN (zs ss).reverse.length : Nat) : Int)) (h2 : packed = ((packN ((zs ss).reverse.reverse.map Int.toNat) : Nat) : Int)) : ones = ((onesN ss.length : Nat) : Int) ∧ packed = ((packN ss : Nat) : Int) := by
  rw [List.length_reverse, List.length_map] at h1
  rw [List.reverse_reverse, List.map_map] at h2
  refine ⟨h1, h2.trans ?_⟩
  congr 2
  exact List.map_id'' (fun _ => rfl) _
theorem rulesW21_0 : True := by
  k_with "call ref" => (k_here; (with_reducible show wpAny _ _ (call (Value.ref 49) _) _ _ _); k_dflt (refine' Tells.use ?k1 ?k2 ?k3 ?k4 ?k5 ?kK (ilshift_tells _ _ _ _ ?b0 ?b1 ?a0 ?a1) ?kn ?kd ?ku ?_); (case k1 => k_asm); (case k2 => k_asm); (case k3 => k_asm); (case k4 => k_asm); (case k5 => k_asm); (case kK => exact rfl); (case kn => exact need0); (case kd => ktr_room); (case ku => ktr_units); (case b0 => first | assumption | decide); (case b1 => first | assumption | decide); (case a0 => first | assumption | decide); (case a1 => first | assumption | decide); intro v' h' tk' hR F' N'; obtain ⟨t', hE'⟩ := hR; subst hE'; (try dsimp only))
  k_with "call ref" => (k_here; (with_reducible show wpAny _ _ (call (Value.ref 63) _) _ _ _); k_dflt (refine' Tells.use ?k1 ?k2 ?k3 ?k4 ?k5 ?kK (ior_tells _ _ _ _) ?kn ?kd ?ku ?_); (case k1 => k_asm); (case k2 => k_asm); (case k3 => k_asm); (case k4 => k_asm); (case k5 => k_asm); (case kK => exact rfl); (case kn => exact need0); (case kd => ktr_room); (case ku => ktr_units); intro v' h' tk' hR F' N'; obtain ⟨t', hE'⟩ := hR; subst hE'; (try dsimp only))
  exact True.intro
set_option maxRecDepth 100000 in
set_option maxHeartbeats 8000000 in
theorem seg11 {w : World} {mean : ExcName → Option Value} {mg mb : Str → Option Value} {dp un : Nat} {gd : Option (List Code)} {L fa : Addr} {ccd : Value} {outer : List Env} {A₀ : Around} {base h₀ : Heap} {m : Str → Option Value} {s : Shared} {Q : Flow → Shared → Prop} {E : Value → Shared → Prop}
    {lk ld lp lq : Addr} {vk vd vp vq : List Value} {ck cd cp cq : Nat} {ox of op : Obj} {ks ss : List Nat} {ls : Value} {t1 t2 : Tok}
    (B : Below A₀ base outer h₀) (F : Fr h₀ L s.heap m) (X : (KK w).In h₀) (N : News h₀ L s.heap (ledQ L lk ld lp lq vk vd vp vq ck cd cp cq ox of op)) (T : TopH mean mg mb h₀) (hd : dp + 16 < recursionLimit) (hu : un + 128 < cLine)
    (hm1 : m (Str.ofString "sketches") = some (.ref lq)) (hm2 : m (Str.ofString "ones") = some (.int 0 t1)) (hm3 : m (Str.ofString "packed") = some (.int 0 t2)) (hm4 : m (Str.ofString "keys") = some (.ref lk)) (hm5 : m (Str.ofString "script") = some ls)
    (hi : IntsAre vq (zs ss)) (hsl : ss.length ≤ 7) (hsp : ∀ s ∈ ss, s < 64)
    (next : ∀ h' tk' m' u1 u2, Fr h₀ L h' m' → News h₀ L h' (ledQ L lk ld lp lq vk vd vp vq ck cd cp cq ox of op) → m' (Str.ofString "sketches") = some (.ref lq) → m' (Str.ofString "ones") = some (.int ((onesN ss.length : Nat) : Int) u1) → m' (Str.ofString "packed") = some (.int ((packN ss : Nat) : Int) u2) → m' (Str.ofString "keys") = some (.ref lk) → m' (Str.ofString "script") = some ls → Q .next { s with heap := h', toks := tk' })
    (hE : PassesOwn (model prg w) (lawA dp un gd L fa ccd outer) (lawEnv L fa ccd) E) :
    wpAny (model prg w) (lawA dp un gd L fa ccd outer) (exec (lawStmt 11) (lawEnv L fa ccd)) Q E s := by
  revert X T
  unfold prg KK TopH
  k_fill
  intro X T
  k_with "pyIter ref" => k_state (fun pre ones packed => 0 ≤ ones ∧ ones < 18446744073709551616 ∧ 0 ≤ packed ∧ packed < 18446744073709551616 ∧ ones = ((onesN pre.length : Nat) : Int) ∧ packed = ((packN (pre.reverse.map Int.toNat) : Nat) : Int)) "ones" "packed"
  k_with "state" => first | exact pk_start | exact pk_turn hsl hsp (by assumption) (by assumption) (by assumption)
  have F2 := fr_know F [(Str.ofString "sketches", .ref lq), (Str.ofString "ones", .int 0 t1), (Str.ofString "packed", .int 0 t2), (Str.ofString "keys", .ref lk), (Str.ofString "script", ls)] (by simp [hm1, hm2, hm3, hm4, hm5])
  dsimp only [kstB] at F2
  clear F
  conv => enter [3, 1]; whnf
  k_steps
  rename _ = ((onesN _ : Nat) : Int) => q1
  rename _ = ((packN _ : Nat) : Int) => q2
  obtain ⟨r1, r2⟩ := pk_end q1 q2
  subst r1
  subst r2
  rename Fr _ _ _ _ => hF
  rename News _ _ _ _ => hN
  refine' next _ _ _ _ _ hF (fun p hp => hN p ?h0) ?h1 ?h2 ?h3 ?h4 ?h5
  case h2 => with_unfolding_all rfl
  case h3 => with_unfolding_all rfl
  case h1 => with_unfolding_all rfl
  case h4 => with_unfolding_all rfl
  case h5 => with_unfolding_all rfl
  case h0 => first | exact hp | exact .tail _ hp | exact .tail _ (.tail _ hp)
end Mine
end

theorem Mine.calmW22 : True := by
  w_top off
  k_with_none
  k_with "k_ne" => (refine neN ?_; (try dsimp only); first | with_reducible assumption | with_reducible exact Ne.symm (by assumption))
  exact True.intro
section
open PySem PySem.W PyProof.Rows PySem.Calls PySem.Spec PyProof.V
namespace Mine
/-- the ledger once the asked are known -/
abbrev ledR (L lk ld lp lq la : Addr) (vk vd vp vq va : List Value) (ck cd cp cq ca : Nat) (ox of op : Obj) : List (Addr × Obj) := (la, listOf va.toArray ca) :: ledQ L lk ld lp lq vk vd vp vq ck cd cp cq ox of op
section
variable {prog : Program} {w : World} {A : Around} {E : Value → Shared → Prop} {s : Shared} {Q : Value → Shared → Prop}
theorem pow_up {n : Int} {t u : Tok} (h0 : 0 ≤ n) (h1 : n ≤ 1000) (h : ∀ z tk tk', 0 ≤ z → Q (.int z tk) { s with toks := tk' }) :
    wpAny (model prog w) A (binaryOp .Pow (.int 40503 t) (.int n u)) Q E s :=
  pow_int_small h0 (by omega) (by decide) (h _ _ _ (Int.pow_nonneg (by omega)))
theorem pow_two {n : Int} {t u : Tok} (h0 : 0 ≤ n) (h1 : n < 49) (h : ∀ z tk tk', 0 < z → z ≤ 281474976710656 → Q (.int z tk) { s with toks := tk' }) :
    wpAny (model prog w) A (binaryOp .Pow (.int 2 t) (.int n u)) Q E s := by
  obtain ⟨k, rfl⟩ := Int.eq_ofNat_of_zero_le h0
  refine pow_int_small h0 (by omega) (by decide) (h _ _ _ (Int.pow_pos (by omega)) ?_)
  rw [Int.toNat_natCast]
  have h2 : (2 : Nat) ^ k ≤ 2 ^ 48 := Nat.pow_le_pow_right (by omega) (by omega)
  have h3 : ((2 ^ k : Nat) : Int) ≤ ((2 ^ 48 : Nat) : Int) := by exact_mod_cast h2
  rw [Int.natCast_pow] at h3
  exact h3
theorem mod_any {a b : Int} {t u : Tok} (hb : 0 < b) (h : ∀ v tk tk', 0 ≤ v → v < b → Q (.int v tk) { s with toks := tk' }) :
    wpAny (model prog w) A (binaryOp .Mod (.int a t) (.int b u)) Q E s :=
  mod_int' (by omega) (h _ _ _ (Int.fmod_nonneg_of_pos _ hb) (Int.fmod_lt_of_pos _ hb))
end
theorem tells_mono {D : Nat} {w : World} {mean : ExcName → Option Value} {mg mb : Str → Option Value} {f : Addr} {need : List (Addr × Obj)} {vs : List Value} {R R' : Value → Prop} (h : Tells D w mean mg mb f need vs R) (hR : ∀ v, R v → R' v) : Tells D w mean mg mb f need vs R' := by
  intro dp un gd cn cs a ccd cl outer A₀ base h₀ L m news s Q E B F X N T hk hn hd hu hret
  exact h dp un gd cn cs a ccd cl outer A₀ base h₀ L m news s Q E B F X N T hk hn hd hu fun v h' tk' hv => hret v h' tk' (hR v hv)
theorem xor_ask {w : World} {mean : ExcName → Option Value} {mg mb : Str → Option Value} {ks : List Nat} (hb : ∀ k ∈ ks, k < 2 ^ 48) {i : Nat} {v : Int} (h0 : 0 ≤ v) {z : Int} (h1 : v < z) (h2 : z ≤ 281474976710656) (ta tb : Tok) :
    Tells 1 w mean mg mb 21 [] [.int (List.getD (zs ks) (Int.toNat (i : Int)) 0) ta, .int v tb] (fun r => ∃ t, ∃ q : Nat, q < 2 ^ 49 ∧ r = .int (q : Int) t) := by
  obtain ⟨n, rfl⟩ := Int.eq_ofNat_of_zero_le h0
  rw [Int.toNat_natCast, getD_zs]
  have h := xor_nat (w := w) (mean := mean) (mg := mg) (mb := mb) (a := ks.getD i 0) (b := n) ta tb
  have hn : n < 2 ^ 48 := by
    have : (2 : Nat) ^ 48 = 281474976710656 := by decide
    omega
  have hq : ks.getD i 0 ^^^ n < 2 ^ 49 := by
    refine Nat.lt_trans (Nat.xor_lt_two_pow (at_bound hb i) hn) (by decide)
  refine tells_mono h ?_
  rintro r ⟨t, rfl⟩
  exact ⟨t, _, hq, rfl⟩
theorem ints_snoc {vs : List Value} {ks : List Nat} {q : Nat} {t : Tok} (h : IntsAre vs (zs ks)) : IntsAre (vs ++ [.int (q : Int) t]) (zs (ks ++ [q])) := by
  unfold zs at h ⊢
  rw [List.map_append]
  exact h.append (.cons _ _ .nil)
theorem size_range0 (n : Nat) : Builtin.Range.rangeSize 0 (n : Int) 1 = (n : Int) := by
  unfold Builtin.Range.rangeSize
  simp
  omega
theorem rulesW22_0 : True := by
  k_with "binaryOp Pow int int" => (k_here; (with_reducible refine pow_two ?kb1 ?kb2 ?_); (case kb1 => assumption); (case kb2 => assumption); intro z' t' tk' hz0' hz1')
  k_with "binaryOp Pow int int" => (k_here; (with_reducible refine pow_up ?kb1 ?kb2 ?_); (case kb1 => omega); (case kb2 => omega); intro z' t' tk' hz')
  k_with "binaryOp Mod int int" => (k_here; (with_reducible refine mod_any ?kb1 ?_); (case kb1 => first | assumption | decide); intro v' t' tk' hv0' hv1')
  k_with "call ref" => (k_here; (with_reducible show wpAny _ _ (call (Value.ref 21) _) _ _ _); k_dflt (refine' Tells.use ?k1 ?k2 ?k3 ?k4 ?k5 ?kK (xor_ask ?hb ?h0 ?h1 ?h2 _ _) ?kn ?kd ?ku ?_); (case k1 => k_asm); (case k2 => k_asm); (case k3 => k_asm); (case k4 => k_asm); (case k5 => k_asm); (case kK => exact rfl); (case kn => exact need0); (case kd => ktr_room); (case ku => ktr_units); (case hb => assumption); (case h0 => assumption); (case h1 => assumption); (case h2 => assumption); intro v' h' tk' hR F' N'; obtain ⟨t', q', hq', hE'⟩ := hR; subst hE'; (try dsimp only))
  exact True.intro
set_option maxRecDepth 100000 in
set_option maxHeartbeats 1000000 in
theorem seg14 {w : World} {mean : ExcName → Option Value} {mg mb : Str → Option Value} {dp un : Nat} {gd : Option (List Code)} {L fa : Addr} {ccd : Value} {outer : List Env} {A₀ : Around} {base h₀ : Heap} {m : Str → Option Value} {s : Shared} {Q : Flow → Shared → Prop} {E : Value → Shared → Prop}
    {lk ld lp lq la : Addr} {vk vd vp vq va : List Value} {ck cd cp cq ca : Nat} {ox of op : Obj} {ks as0 : List Nat} {dr : Int} {td u1 u2 : Tok} {on pk : Int}
    (B : Below A₀ base outer h₀) (F : Fr h₀ L s.heap m) (X : (KK w).In h₀) (N : News h₀ L s.heap (ledR L lk ld lp lq la vk vd vp vq va ck cd cp cq ca ox of op)) (T : TopH mean mg mb h₀) (hd : dp + 16 < recursionLimit) (hu : un + 128 < cLine)
    (hm1 : m (Str.ofString "sketches") = some (.ref lq)) (hm2 : m (Str.ofString "ones") = some (.int on u1)) (hm3 : m (Str.ofString "packed") = some (.int pk u2)) (hm4 : m (Str.ofString "keys") = some (.ref lk)) (hm5 : m (Str.ofString "draw") = some (.int dr td)) (hm6 : m (Str.ofString "asked") = some (.ref la))
    (hik : IntsAre vk (zs ks)) (hkl : ks.length ≤ 7) (hb : ∀ k ∈ ks, k < 2 ^ 48) (hia : IntsAre va (zs as0)) (hal : as0.length ≤ 9) (hab : ∀ a ∈ as0, a < 2 ^ 49)
    (hne : @Ne Nat la lq ∧ @Ne Nat la lp ∧ @Ne Nat la lk ∧ @Ne Nat la ld ∧ @Ne Nat la (L + 1 + 1 + 1) ∧ @Ne Nat la (L + 1 + 1) ∧ @Ne Nat la (L + 1))
    (next : ∀ h' tk' m' va' as' ca', Fr h₀ L h' m' → News h₀ L h' (ledR L lk ld lp lq la vk vd vp vq va' ck cd cp cq ca' ox of op) → IntsAre va' (zs as') → as'.length ≤ 16 → (∀ a ∈ as', a < 2 ^ 49) → m' (Str.ofString "sketches") = some (.ref lq) → m' (Str.ofString "ones") = some (.int on u1) → m' (Str.ofString "packed") = some (.int pk u2) → m' (Str.ofString "keys") = some (.ref lk) → m' (Str.ofString "asked") = some (.ref la) → Q .next { s with heap := h', toks := tk' })
    (hE : PassesOwn (model prg w) (lawA dp un gd L fa ccd outer) (lawEnv L fa ccd) E) :
    wpAny (model prg w) (lawA dp un gd L fa ccd outer) (exec (lawStmt 14) (lawEnv L fa ccd)) Q E s := by
  revert X T
  unfold prg KK TopH
  k_fill
  intro X T
  conv => enter [3, 1]; whnf
  have hvk : vk.length = ks.length := by have := hik.length; rw [List.length_map] at this; exact this
  refine For_range (h₀ := h₀) (m := m) (news := ledR L lk ld lp lq la vk vd vp vq va ck cd cp cq ca ox of op) (a := 0) (b := (ks.length : Nat)) (n := ks.length) rfl [la, lq, lp, lk, ld, L + 1 + 1 + 1, L + 1 + 1, L + 1]
    (fun i m' nx => ∃ va' as' ca', nx = ledR L lk ld lp lq la vk vd vp vq va' ck cd cp cq ca' ox of op ∧ IntsAre va' (zs as') ∧ as'.length ≤ 9 + i ∧ (∀ a ∈ as', a < 2 ^ 49) ∧ m' (Str.ofString "sketches") = some (.ref lq) ∧ m' (Str.ofString "ones") = some (.int on u1) ∧ m' (Str.ofString "packed") = some (.int pk u2) ∧ m' (Str.ofString "keys") = some (.ref lk) ∧ m' (Str.ofString "draw") = some (.int dr td) ∧ m' (Str.ofString "asked") = some (.ref la))
    ?hadr ?hsm ?hn ?he ?h0 ?step ?done ?hs ?ht hE
  case hs => intro _; rfl
  case ht => intro _ _; rfl
  case hadr => rintro i m' nx ⟨va', as', ca', rfl, _⟩; rfl
  case h0 => exact ⟨va, as0, ca, rfl, hia, hal, hab, hm1, hm2, hm3, hm4, hm5, hm6⟩
  case hsm => exact small_one (by omega) (by omega) (by omega) (by omega)
  case hn => exact size_range0 _
  case done =>
    rintro h' tk m' nx ⟨va', as', ca', rfl, h1, h2, h3, h4, h5, h6, h7, h8, h9⟩ F' N'
    exact next h' tk m' va' as' ca' F' N' h1 (by omega) h3 h4 h5 h6 h7 h9
  case he =>
    intro Q' hQ'
    have F1 := fr_know F [(Str.ofString "keys", .ref lk)] (by simpa using hm4)
    dsimp only [kstB] at F1
    k_steps
    rename IsRange _ _ _ _ _ _ _ _ => hr
    rw [List.length_map] at hr
    exact hQ' _ _ _ _ _ _ (fr_back (ps := [(Str.ofString "keys", .ref lk)]) (by assumption) (by simpa using hm4)) (by assumption) hr
  case step =>
    rintro i t m₁ nx h tk ⟨it1, it2⟩ hi ⟨va', as', ca', rfl, h1, h2, h3, h4, h5, h6, h7, h8, h9⟩ hit F1 N1
    have F2 := fr_know F1 [(Str.ofString "keys", .ref lk), (Str.ofString "draw", .int dr td), (Str.ofString "asked", .ref la)] (by simp [h7, h8, h9])
    dsimp only [kstB] at F2
    clear F1
    simp only [List.forall_mem_cons, List.not_mem_nil, false_implies, implies_true, and_true] at hit
    obtain ⟨i1, i2, i3, i4, i5, i6, i7, i8⟩ := hit
    obtain ⟨n1, n2, n3, n4, n5, n6, n7⟩ := hne
    change @Ne Addr _ _ at n1 n2 n3 n4 n5 n6 n7
    rw [Int.zero_add]
    k_steps
    rename _ < 2 ^ 49 => hq
    rename News _ _ _ _ => hN
    rw [List.push_toArray] at hN
    apply AnyPost.next (ledR L lk ld lp lq la vk vd vp vq _ ck cd cp cq _ ox of op)
    · assumption
    · exact hN
    · intro p hp; repeat (first | exact hp | refine List.mem_cons_of_mem _ ?_)
    · refine ⟨_, as' ++ [_], _, rfl, ints_snoc h1, ?_, ?_, by with_unfolding_all exact h4, by with_unfolding_all exact h5, by with_unfolding_all exact h6, by with_unfolding_all rfl, by with_unfolding_all rfl, by with_unfolding_all rfl⟩
      · rw [List.length_append]; simp only [List.length_cons, List.length_nil]; omega
      · intro a ha
        rcases List.mem_append.mp ha with ha | ha
        · exact h3 a ha
        · rw [List.mem_singleton] at ha; rw [ha]; exact hq
end Mine
end

theorem Mine.calmW23 : True := by
  w_top off
  k_with_none
  k_with "k_ne" => (refine neN ?_; (try dsimp only); first | with_reducible assumption | with_reducible exact Ne.symm (by assumption))
  exact True.intro
section
open PySem PySem.W PyProof.Rows PySem.Calls PySem.Spec PyProof.V
namespace Mine
def lawDue (k : Nat) : Expr := match lawStmt 15 with
  | .For _ _ (.Assign _ (.List es _) _ :: _) _ _ => (es.drop k).headD (.Name (Str.ofString "x") ⟨0, 0, 0, 0⟩)
  | _ => .Name (Str.ofString "x") ⟨0, 0, 0, 0⟩
theorem clN_fold (ks : List Nat) (x : Nat) : (List.foldl (fun l' k' => if k' < (x : Int) then l' ++ [k'] else l') [] (zs ks)).length = clN ks x := by
  rw [fold_filter, List.nil_append, ← List.countP_eq_length_filter]
  unfold clN zs
  rw [List.countP_map]
  apply List.countP_congr
  intro k _
  simp
theorem crN_fold (ks : List Nat) (x : Nat) : (List.foldl (fun l' k' => if k' ≤ (x : Int) then l' ++ [k'] else l') [] (zs ks)).length = crN ks x := by
  rw [fold_filter, List.nil_append, ← List.countP_eq_length_filter]
  unfold crN zs
  rw [List.countP_map]
  apply List.countP_congr
  intro k _
  simp
theorem rulesW23_0 : True := by
  k_with "CompEnd" => refine LCg.CompEnd.intro (by assumption) (by assumption) _ (fun p hp => hp) (by assumption) (by lcg_src) ?_
  k_with "CompSrcT" => (k_here; k_dflt (refine LCt.CompSrcT.ledger (by rfl) (by k_asm) (by k_asm) (by k_mem) (by assumption) ?_; intro g'; (refine' kci_list _ ?hi (fun k' t' I' oI' C' oC' D' m' ys' l' h' tk' E' hk' hI' hC' hx' F' N' off' ne' => ?_) ?_ ?_); (case hi => assumption); (all_goals (try ((show KPfMark → _); intro hMark'))); kcf_last))
  k_with "eval ListComp" => (k_here; lct_look; lcg_calm; k_dflt (refine LCt.ListComp_T (F₀ := by k_asm) (by with_unfolding_all rfl) (by decide) (by rfl) (by decide) (by rfl) ?_); k_dflt lct_toSrc)
  exact True.intro
set_option maxRecDepth 100000 in
set_option maxHeartbeats 1000000 in
theorem due_lt {w : World} {mean : ExcName → Option Value} {mg mb : Str → Option Value} {dp un : Nat} {gd : Option (List Code)} {L fa : Addr} {ccd : Value} {outer : List Env} {A₀ : Around} {base h₀ : Heap} {m : Str → Option Value} {s : Shared} {Q : Value → Shared → Prop} {E : Value → Shared → Prop}
    {lk : Addr} {vk : List Value} {ck : Nat} {ox : Obj} {ks : List Nat} {x : Nat} {t : Tok} {news : List (Addr × Obj)}
    (B : Below A₀ base outer h₀) (F : Fr h₀ L s.heap m) (X : (KK w).In h₀) (N0 : News h₀ L s.heap news) (T : TopH mean mg mb h₀) (hd : dp + 16 < recursionLimit) (hu : un + 128 < cLine)
    (hl : (lk, listOf vk.toArray ck) ∈ news) (hc : (L + 1, ox) ∈ news) (hox : ox.data = .cell (some (.int (x : Int) t))) (hm4 : m (Str.ofString "keys") = some (.ref lk)) (hik : IntsAre vk (zs ks)) (hkl : ks.length ≤ 7)
    (next : ∀ h' tk' t', Fr h₀ L h' m → News h₀ L h' news → Q (.int ((clN ks x : Nat) : Int) t') { s with heap := h', toks := tk' }) :
    wpAny (model prg w) (lawA dp un gd L fa ccd outer) (eval (lawDue 0) (lawEnv L fa ccd)) Q E s := by
  have N := news_dup (news_dup N0 hl) (List.mem_cons_of_mem _ hc)
  clear N0
  revert X T
  unfold prg KK TopH
  k_fill
  intro X T
  have hvk : vk.toArray.size ≤ sizeLine := by
    have h := hik.length
    rw [List.length_map] at h
    rw [List.size_toArray, sizeLine_eq]
    omega
  have F2 := fr_know F [(Str.ofString "keys", .ref lk)] (by simpa using hm4)
  dsimp only [kstB] at F2
  clear F
  conv => enter [3, 1]; whnf
  k_steps
  rename News _ _ _ _ => hN
  rename Fr _ _ _ _ => hF
  rename List.length _ = List.length _ => hL
  rw [clN_fold] at hL
  have hle : clN ks x ≤ ks.length := List.countP_le_length
  refine len_list ⟨_, hN.get (.head _), rfl, _, rfl⟩ (by rw [List.size_toArray, hL]; omega) ?_
  rw [List.size_toArray, hL]
  exact next _ _ _ (fr_back (ps := [(Str.ofString "keys", .ref lk)]) hF (by simpa using hm4)) (fun p hp => hN p (.tail _ (.tail _ (.tail _ hp))))
set_option maxRecDepth 100000 in
set_option maxHeartbeats 1000000 in
theorem due_le {w : World} {mean : ExcName → Option Value} {mg mb : Str → Option Value} {dp un : Nat} {gd : Option (List Code)} {L fa : Addr} {ccd : Value} {outer : List Env} {A₀ : Around} {base h₀ : Heap} {m : Str → Option Value} {s : Shared} {Q : Value → Shared → Prop} {E : Value → Shared → Prop}
    {lk : Addr} {vk : List Value} {ck : Nat} {ox : Obj} {ks : List Nat} {x : Nat} {t : Tok} {news : List (Addr × Obj)}
    (B : Below A₀ base outer h₀) (F : Fr h₀ L s.heap m) (X : (KK w).In h₀) (N0 : News h₀ L s.heap news) (T : TopH mean mg mb h₀) (hd : dp + 16 < recursionLimit) (hu : un + 128 < cLine)
    (hl : (lk, listOf vk.toArray ck) ∈ news) (hc : (L + 1, ox) ∈ news) (hox : ox.data = .cell (some (.int (x : Int) t))) (hm4 : m (Str.ofString "keys") = some (.ref lk)) (hik : IntsAre vk (zs ks)) (hkl : ks.length ≤ 7)
    (next : ∀ h' tk' t', Fr h₀ L h' m → News h₀ L h' news → Q (.int ((crN ks x : Nat) : Int) t') { s with heap := h', toks := tk' }) :
    wpAny (model prg w) (lawA dp un gd L fa ccd outer) (eval (lawDue 1) (lawEnv L fa ccd)) Q E s := by
  have N := news_dup (news_dup N0 hl) (List.mem_cons_of_mem _ hc)
  clear N0
  revert X T
  unfold prg KK TopH
  k_fill
  intro X T
  have hvk : vk.toArray.size ≤ sizeLine := by
    have h := hik.length
    rw [List.length_map] at h
    rw [List.size_toArray, sizeLine_eq]
    omega
  have F2 := fr_know F [(Str.ofString "keys", .ref lk)] (by simpa using hm4)
  dsimp only [kstB] at F2
  clear F
  conv => enter [3, 1]; whnf
  k_steps
  rename News _ _ _ _ => hN
  rename Fr _ _ _ _ => hF
  rename List.length _ = List.length _ => hL
  rw [crN_fold] at hL
  have hle : crN ks x ≤ ks.length := List.countP_le_length
  refine len_list ⟨_, hN.get (.head _), rfl, _, rfl⟩ (by rw [List.size_toArray, hL]; omega) ?_
  rw [List.size_toArray, hL]
  exact next _ _ _ (fr_back (ps := [(Str.ofString "keys", .ref lk)]) hF (by simpa using hm4)) (fun p hp => hN p (.tail _ (.tail _ (.tail _ hp))))
end Mine
end

theorem Mine.calmW24 : True := by
  w_top off
  k_with_none
  k_with "k_ne" => (refine neN ?_; (try dsimp only); first | with_reducible assumption | with_reducible exact Ne.symm (by assumption))
  exact True.intro
section
open PySem PySem.W PyProof.Rows PySem.Calls PySem.Spec PyProof.V
namespace Mine
/-- hidden from the arithmetic of the walk -/
structure Keys48 (ks : List Nat) : Prop where
  all : ∀ k ∈ ks, k < 2 ^ 48
structure Ask49 (x : Nat) : Prop where
  lt : x < 2 ^ 49
theorem law_below_Z {w : World} {mean : ExcName → Option Value} {mg mb : Str → Option Value} {ks : List Nat} (hs : ks.Pairwise (· < ·)) (hb : Keys48 ks) (hl : ks.length ≤ 7) (x : Nat) (tp to ts tk : Tok) :
    Tells 3 w mean mg mb 132 [] [.int ((packN (ssOf ks) : Nat) : Int) tp, .int ((onesN ks.length : Nat) : Int) to, .int (((zs ks).length : Nat) : Int) ts, .int ((skN x (psOf ks) : Nat) : Int) tk] (fun v => ∃ t, v = .int ((clN (ssOf ks) (skN x (psOf ks)) : Nat) : Int) t) := by
  rw [List.length_map]
  exact law_below_N hs hb.all hl x tp to ts tk
theorem rulesW24_0 : True := by
  k_with "eval Call" => (k_here; (with_reducible show wpAny _ _ (eval (Expr.Call (Expr.Name _ _) [Expr.ListComp _ [⟨_, _, [Expr.Compare _ [CmpOp.Lt] _ _], _⟩] _ _] _ _) _) _ _ _); k_dflt (refine' due_lt ?k1 ?k2 ?k3 ?k4 ?k5 ?kd ?ku ?kl ?kc ?kx ?km ?ki ?kz ?_); (case k1 => k_asm); (case k2 => k_asm); (case k3 => k_asm); (case k4 => k_asm); (case k5 => k_asm); (case kd => assumption); (case ku => assumption); (case kc => k_mem); (case km => with_unfolding_all rfl); (case kl => k_mem); (case kx => assumption); (case ki => assumption); (case kz => assumption); intro h' tk' t' F' N'; (try dsimp only))
  k_with "eval Call" => (k_here; (with_reducible show wpAny _ _ (eval (Expr.Call (Expr.Name _ _) [Expr.ListComp _ [⟨_, _, [Expr.Compare _ [CmpOp.LtE] _ _], _⟩] _ _] _ _) _) _ _ _); k_dflt (refine' due_le ?k1 ?k2 ?k3 ?k4 ?k5 ?kd ?ku ?kl ?kc ?kx ?km ?ki ?kz ?_); (case k1 => k_asm); (case k2 => k_asm); (case k3 => k_asm); (case k4 => k_asm); (case k5 => k_asm); (case kd => assumption); (case ku => assumption); (case kc => k_mem); (case km => with_unfolding_all rfl); (case kl => k_mem); (case kx => assumption); (case ki => assumption); (case kz => assumption); intro h' tk' t' F' N'; (try dsimp only))
  k_with "call ref" => (k_here; (with_reducible show wpAny _ _ (call (Value.ref 137) _) _ _ _); k_dflt (refine' law_place_N ?hi ?hip ?hs ?hb ?h0 ?hl ?hx _ _ _ _ ?k1 ?k2 ?k3 ?k4 ?m1 ?m2 ?k5 ?kK ?kd ?ku ?_); (case k1 => k_asm); (case k2 => k_asm); (case k3 => k_asm); (case k4 => k_asm); (case m1 => k_mem); (case m2 => k_mem); (case k5 => k_asm); (case kK => exact rfl); (case kd => ktr_room); (case ku => ktr_units); (case hi => assumption); (case hip => assumption); (case hs => assumption); (case hb => exact Keys48.all (by assumption)); (case h0 => assumption); (case hl => assumption); (case hx => exact Ask49.lt (by assumption)); intro D' us' h' tk' hI' F' N'; (try dsimp only))
  k_with "call ref" => (k_here; (with_reducible show wpAny _ _ (call (Value.ref 104) [Value.ref _, Value.int _ _]) _ _ _); k_dflt (refine' Tells.use ?k1 ?k2 ?k3 ?k4 ?k5 ?kK (bisect_leftN ?hi ?hl ?hs _ _) ?kn ?kd ?ku ?_); (case k1 => k_asm); (case k2 => k_asm); (case k3 => k_asm); (case k4 => k_asm); (case k5 => k_asm); (case kK => exact rfl); (case kn => exact need1 (by k_mem)); (case kd => ktr_room); (case ku => ktr_units); (case hi => assumption); (case hl => assumption); (case hs => assumption); intro v' h' tk' hR F' N'; obtain ⟨t', hE'⟩ := hR; subst hE'; (try dsimp only))
  k_with "call ref" => (k_here; (with_reducible show wpAny _ _ (call (Value.ref 86) [Value.ref _, Value.int _ _]) _ _ _); k_dflt (refine' Tells.use ?k1 ?k2 ?k3 ?k4 ?k5 ?kK (bisect_rightN ?hi ?hl ?hs _ _) ?kn ?kd ?ku ?_); (case k1 => k_asm); (case k2 => k_asm); (case k3 => k_asm); (case k4 => k_asm); (case k5 => k_asm); (case kK => exact rfl); (case kn => exact need1 (by k_mem)); (case kd => ktr_room); (case ku => ktr_units); (case hi => assumption); (case hl => assumption); (case hs => assumption); intro v' h' tk' hR F' N'; obtain ⟨t', hE'⟩ := hR; subst hE'; (try dsimp only))
  k_with "call ref" => (k_here; (with_reducible show wpAny _ _ (call (Value.ref 125) _) _ _ _); k_dflt (refine' Tells.use ?k1 ?k2 ?k3 ?k4 ?k5 ?kK (law_sketch_tells _ _ _ _ ?hi ?hl ?hp _ _) ?kn ?kd ?ku ?_); (case k1 => k_asm); (case k2 => k_asm); (case k3 => k_asm); (case k4 => k_asm); (case k5 => k_asm); (case kK => exact rfl); (case kn => exact need1 (by k_mem)); (case kd => ktr_room); (case ku => ktr_units); (case hi => assumption); (case hl => assumption); (case hp => assumption); intro v' h' tk' hR F' N'; obtain ⟨t', hE'⟩ := hR; subst hE'; (try dsimp only))
  k_with "call ref" => (k_here; (with_reducible show wpAny _ _ (call (Value.ref 132) _) _ _ _); k_dflt (refine' Tells.use ?k1 ?k2 ?k3 ?k4 ?k5 ?kK (law_below_Z ?hs ?hb ?hl _ _ _ _ _) ?kn ?kd ?ku ?_); (case k1 => k_asm); (case k2 => k_asm); (case k3 => k_asm); (case k4 => k_asm); (case k5 => k_asm); (case kK => exact rfl); (case kn => exact need0); (case kd => ktr_room); (case ku => ktr_units); (case hs => assumption); (case hb => assumption); (case hl => assumption); intro v' h' tk' hR F' N'; obtain ⟨t', hE'⟩ := hR; subst hE'; (try dsimp only))
  exact True.intro
set_option maxRecDepth 100000 in
set_option maxHeartbeats 1000000 in
theorem seg15 {w : World} {mean : ExcName → Option Value} {mg mb : Str → Option Value} {dp un : Nat} {gd : Option (List Code)} {L fa : Addr} {ccd : Value} {outer : List Env} {A₀ : Around} {base h₀ : Heap} {m : Str → Option Value} {s : Shared} {Q : Flow → Shared → Prop} {E : Value → Shared → Prop}
    {lk ld lp lq la : Addr} {vk vd vp vq va : List Value} {ck cd cp cq ca : Nat} {ox of op : Obj} {ks as0 : List Nat} {u1 u2 : Tok} {vx : Option Value}
    (B : Below A₀ base outer h₀) (F : Fr h₀ L s.heap m) (X : (KK w).In h₀) (N : News h₀ L s.heap (ledR L lk ld lp lq la vk vd vp vq va ck cd cp cq ca ox of op)) (T : TopH mean mg mb h₀) (hd : dp + 16 < recursionLimit) (hu : un + 128 < cLine)
    (hm1 : m (Str.ofString "sketches") = some (.ref lq)) (hm2 : m (Str.ofString "ones") = some (.int ((onesN ks.length : Nat) : Int) u1)) (hm3 : m (Str.ofString "packed") = some (.int ((packN (ssOf ks) : Nat) : Int) u2)) (hm4 : m (Str.ofString "keys") = some (.ref lk)) (hm6 : m (Str.ofString "asked") = some (.ref la))
    (hop : op.data = .cell (some (.ref lp))) (hox : ox.data = .cell vx)
    (hik : IntsAre vk (zs ks)) (hip : IntsAre vp (zs (psOf ks))) (hiq : IntsAre vq (zs (ssOf ks))) (hk0 : 0 < ks.length) (hkl : ks.length ≤ 7) (hks : ks.Pairwise (· < ·)) (hb : Keys48 ks) (hia : IntsAre va (zs as0)) (hal : as0.length ≤ 16) (hab : ∀ a ∈ as0, Ask49 a)
    (hne : @Ne Nat la (L + 1) ∧ @Ne Nat lq (L + 1) ∧ @Ne Nat lp (L + 1) ∧ @Ne Nat lk (L + 1) ∧ @Ne Nat ld (L + 1))
    (next : ∀ h' tk' m' ox', Fr h₀ L h' m' → News h₀ L h' (ledR L lk ld lp lq la vk vd vp vq va ck cd cp cq ca ox' of op) → Q .next { s with heap := h', toks := tk' })
    (hE : PassesOwn (model prg w) (lawA dp un gd L fa ccd outer) (lawEnv L fa ccd) E) :
    wpAny (model prg w) (lawA dp un gd L fa ccd outer) (exec (lawStmt 15) (lawEnv L fa ccd)) Q E s := by
  revert X T
  unfold prg KK TopH
  k_fill
  intro X T
  conv => enter [3, 1]; whnf
  have hpl : (psOf ks).length ≤ 7 := by have := ps_length ks; omega
  have hpp : ∀ p ∈ psOf ks, p < 64 := fun p hp => by have := ps_lt hp; omega
  have hss := ss_rising hks hb.all
  have hsl : (ssOf ks).length ≤ 64 := by rw [ss_length]; omega
  have hkl64 : ks.length ≤ 64 := by omega
  have hvk : vk.toArray.size ≤ sizeLine := by
    have h := hik.length
    rw [List.length_map] at h
    rw [List.size_toArray, sizeLine_eq]
    omega
  refine For_list (h₀ := h₀) (m := m) (news := ledR L lk ld lp lq la vk vd vp vq va ck cd cp cq ca ox of op) (l := la) (vs := va) (nn := ca) rfl [la, lq, lp, lk, ld, L + 1 + 1 + 1, L + 1 + 1, L + 1]
    (fun i m' nx => ∃ ox', nx = ledR L lk ld lp lq la vk vd vp vq va ck cd cp cq ca ox' of op ∧ (∃ v, ox'.data = .cell v) ∧ m' (Str.ofString "sketches") = some (.ref lq) ∧ m' (Str.ofString "ones") = some (.int ((onesN ks.length : Nat) : Int) u1) ∧ m' (Str.ofString "packed") = some (.int ((packN (ssOf ks) : Nat) : Int) u2) ∧ m' (Str.ofString "keys") = some (.ref lk) ∧ m' (Str.ofString "asked") = some (.ref la))
    ?hadr ?hl ?he ?h0 ?step ?done ?hs ?ht hE
  case hs => intro _; rfl
  case ht => intro _ _; rfl
  case hadr => rintro i m' nx ⟨ox', rfl, _⟩; rfl
  case hl => rintro i m' nx ⟨ox', rfl, _⟩; exact .head _
  case h0 => exact ⟨ox, rfl, ⟨_, hox⟩, hm1, hm2, hm3, hm4, hm6⟩
  case done =>
    rintro h' tk m' nx ⟨ox', rfl, _⟩ F' N'
    exact next h' tk m' ox' F' N'
  case he =>
    intro Q' hQ'
    have F1 := fr_know F [(Str.ofString "asked", .ref la)] (by simpa using hm6)
    dsimp only [kstB] at F1
    k_steps
    exact hQ' _ _ F (by assumption)
  case step =>
    rintro i v m₁ nx h tk ⟨it1, it2⟩ hv ⟨ox', rfl, ⟨v0, h3⟩, h4, h5, h6, h7, h8⟩ hit F1 N1
    obtain ⟨x, t, rfl, hd0⟩ := hia.at i v hv
    obtain ⟨x, rfl, hx1⟩ : ∃ x' : Nat, x = (x' : Int) ∧ as0[i]? = some x' := by
      rw [List.getElem?_map] at hd0
      cases hq : as0[i]? with
      | none => rw [hq] at hd0; cases hd0
      | some x' => rw [hq] at hd0; exact ⟨x', (Option.some.inj hd0).symm, rfl⟩
    have hx : Ask49 x := hab x (List.mem_of_getElem? hx1)
    have F2 := fr_know F1 [(Str.ofString "keys", .ref lk), (Str.ofString "sketches", .ref lq), (Str.ofString "ones", .int ((onesN ks.length : Nat) : Int) u1), (Str.ofString "packed", .int ((packN (ssOf ks) : Nat) : Int) u2)] (by simp [h4, h5, h6, h7])
    dsimp only [kstB] at F2
    clear F1
    simp only [List.forall_mem_cons, List.not_mem_nil, false_implies, implies_true, and_true] at hit
    obtain ⟨i1, i2, i3, i4, i5, i6, i7, i8⟩ := hit
    obtain ⟨n1, n2, n3, n4, n5⟩ := hne
    change @Ne Addr _ _ at n1 n2 n3 n4 n5
    k_steps
    all_goals first
      | (exfalso
         rename _ ≠ _ => hn
         exact hn rfl)
      | (rename News _ _ _ _ => hN
         apply AnyPost.next (ledR L lk ld lp lq la vk vd vp vq va ck cd cp cq ca _ of op)
         assumption
         exact hN
         (intro p hp; repeat (first | exact hp | refine List.mem_cons_of_mem _ ?_))
         exact ⟨_, rfl, ⟨_, by assumption⟩, by with_unfolding_all rfl, by with_unfolding_all rfl, by with_unfolding_all rfl, by with_unfolding_all rfl, by with_unfolding_all exact h8⟩)
end Mine
end

theorem Mine.calmW25 : True := by
  w_top off
  k_with_none
  k_with "k_ne" => (refine neN ?_; (try dsimp only); first | with_reducible assumption | with_reducible exact Ne.symm (by assumption))
  exact True.intro
section
open PySem PySem.W PyProof.Rows PySem.Calls PySem.Spec PyProof.V
namespace Mine
set_option maxRecDepth 100000 in
set_option maxHeartbeats 1000000 in
theorem seg4 {w : World} {mean : ExcName → Option Value} {mg mb : Str → Option Value} {dp un : Nat} {gd : Option (List Code)} {L fa : Addr} {ccd : Value} {outer : List Env} {A₀ : Around} {base h₀ : Heap} {m : Str → Option Value} {s : Shared} {Q : Flow → Shared → Prop} {E : Value → Shared → Prop}
    {lk ld : Addr} {vk vd : List Value} {ck cd : Nat} {ox of op : Obj} {vf : Option Value} (hof : of.data = .cell vf) (hne : @Ne Nat lk (L + 1 + 1) ∧ @Ne Nat ld (L + 1 + 1))
    (B : Below A₀ base outer h₀) (F : Fr h₀ L s.heap m) (X : (KK w).In h₀) (N : News h₀ L s.heap (ledK L lk ld vk vd ck cd ox of op)) (T : TopH mean mg mb h₀) (hd : dp + 16 < recursionLimit) (hu : un + 128 < cLine)
    (next : ∀ h' tk' of' t', Fr h₀ L h' m → News h₀ L h' (ledK L lk ld vk vd ck cd ox of' op) → of'.data = .cell (some (.int 0 t')) → Q .next { s with heap := h', toks := tk' }) :
    wpAny (model prg w) (lawA dp un gd L fa ccd outer) (exec (lawStmt 4) (lawEnv L fa ccd)) Q E s := by
  revert X T
  unfold prg KK TopH
  k_fill
  intro X T
  obtain ⟨n1, n2⟩ := hne
  conv => enter [3, 1]; whnf
  k_steps
  rename News _ _ _ _ => hN
  rename Fr _ _ _ _ => hF
  exact next _ _ _ _ hF hN (by assumption)
set_option maxRecDepth 100000 in
set_option maxHeartbeats 1000000 in
theorem seg9 {w : World} {mean : ExcName → Option Value} {mg mb : Str → Option Value} {dp un : Nat} {gd : Option (List Code)} {L fa : Addr} {ccd : Value} {outer : List Env} {A₀ : Around} {base h₀ : Heap} {m : Str → Option Value} {s : Shared} {Q : Flow → Shared → Prop} {E : Value → Shared → Prop}
    {news : List (Addr × Obj)}
    (B : Below A₀ base outer h₀) (F : Fr h₀ L s.heap m) (X : (KK w).In h₀) (N : News h₀ L s.heap (news)) (T : TopH mean mg mb h₀) (hd : dp + 16 < recursionLimit) (hu : un + 128 < cLine)
    (next : ∀ h' tk' m' t', Fr h₀ L h' m' → News h₀ L h' news → m' (Str.ofString "ones") = some (.int 0 t') → (∀ z, z ≠ Str.ofString "ones" → m' z = m z) → Q .next { s with heap := h', toks := tk' }) :
    wpAny (model prg w) (lawA dp un gd L fa ccd outer) (exec (lawStmt 9) (lawEnv L fa ccd)) Q E s := by
  revert X T
  unfold prg KK TopH
  k_fill
  intro X T
  conv => enter [3, 1]; whnf
  k_steps
  rename News _ _ _ _ => hN
  rename Fr _ _ _ _ => hF
  exact next _ _ _ _ hF hN (by with_unfolding_all rfl) (fun z hz => if_neg hz)
set_option maxRecDepth 100000 in
set_option maxHeartbeats 1000000 in
theorem seg10 {w : World} {mean : ExcName → Option Value} {mg mb : Str → Option Value} {dp un : Nat} {gd : Option (List Code)} {L fa : Addr} {ccd : Value} {outer : List Env} {A₀ : Around} {base h₀ : Heap} {m : Str → Option Value} {s : Shared} {Q : Flow → Shared → Prop} {E : Value → Shared → Prop}
    {news : List (Addr × Obj)}
    (B : Below A₀ base outer h₀) (F : Fr h₀ L s.heap m) (X : (KK w).In h₀) (N : News h₀ L s.heap (news)) (T : TopH mean mg mb h₀) (hd : dp + 16 < recursionLimit) (hu : un + 128 < cLine)
    (next : ∀ h' tk' m' t', Fr h₀ L h' m' → News h₀ L h' news → m' (Str.ofString "packed") = some (.int 0 t') → (∀ z, z ≠ Str.ofString "packed" → m' z = m z) → Q .next { s with heap := h', toks := tk' }) :
    wpAny (model prg w) (lawA dp un gd L fa ccd outer) (exec (lawStmt 10) (lawEnv L fa ccd)) Q E s := by
  revert X T
  unfold prg KK TopH
  k_fill
  intro X T
  conv => enter [3, 1]; whnf
  k_steps
  rename News _ _ _ _ => hN
  rename Fr _ _ _ _ => hF
  exact next _ _ _ _ hF hN (by with_unfolding_all rfl) (fun z hz => if_neg hz)
set_option maxRecDepth 100000 in
set_option maxHeartbeats 1000000 in
theorem seg12 {w : World} {mean : ExcName → Option Value} {mg mb : Str → Option Value} {dp un : Nat} {gd : Option (List Code)} {L fa : Addr} {ccd : Value} {outer : List Env} {A₀ : Around} {base h₀ : Heap} {m : Str → Option Value} {s : Shared} {Q : Flow → Shared → Prop} {E : Value → Shared → Prop}
    {news : List (Addr × Obj)} {ls : Addr} {vs : List Value} {ns : List Int} (hm1 : m (Str.ofString "script") = some (.ref ls)) (hL : h₀.IsList ls vs.toArray) (hI : IntsAre vs ns) (hc : ¬ (63 : Int) < ns.length)
    (B : Below A₀ base outer h₀) (F : Fr h₀ L s.heap m) (X : (KK w).In h₀) (N : News h₀ L s.heap (news)) (T : TopH mean mg mb h₀) (hd : dp + 16 < recursionLimit) (hu : un + 128 < cLine)
    (next : ∀ h' tk' m' d' t', Fr h₀ L h' m' → News h₀ L h' news → m' (Str.ofString "draw") = some (.int d' t') → (∀ z, z ≠ Str.ofString "draw" → m' z = m z) → Q .next { s with heap := h', toks := tk' }) :
    wpAny (model prg w) (lawA dp un gd L fa ccd outer) (exec (lawStmt 12) (lawEnv L fa ccd)) Q E s := by
  revert X T
  unfold prg KK TopH
  k_fill
  intro X T
  have F2 := fr_know F [(Str.ofString "script", .ref ls)] (by simp [hm1])
  dsimp only [kstB] at F2
  clear F
  conv => enter [3, 1]; whnf
  k_steps
  rename News _ _ _ _ => hN
  rename Fr _ _ _ _ => hF
  refine' next _ _ _ _ _ hF hN ?h1 ?h2
  case h1 => with_unfolding_all rfl
  case h2 =>
    intro z hz
    refine (if_neg hz).trans ?_
    by_cases e : z = Str.ofString "script"
    · rw [if_pos e, e, hm1]
    · rw [if_neg e]
set_option maxRecDepth 100000 in
set_option maxHeartbeats 1000000 in
theorem seg13 {w : World} {mean : ExcName → Option Value} {mg mb : Str → Option Value} {dp un : Nat} {gd : Option (List Code)} {L fa : Addr} {ccd : Value} {outer : List Env} {A₀ : Around} {base h₀ : Heap} {m : Str → Option Value} {s : Shared} {Q : Flow → Shared → Prop} {E : Value → Shared → Prop}
    {lk ld lp lq : Addr} {vk vd vp vq : List Value} {ck cd cp cq : Nat} {ox of op : Obj} {ks : List Nat} (hm1 : m (Str.ofString "keys") = some (.ref lk)) (hik : IntsAre vk (zs ks)) (hkl : ks.length ≤ 7)
    (B : Below A₀ base outer h₀) (F : Fr h₀ L s.heap m) (X : (KK w).In h₀) (N : News h₀ L s.heap (ledQ L lk ld lp lq vk vd vp vq ck cd cp cq ox of op)) (T : TopH mean mg mb h₀) (hd : dp + 16 < recursionLimit) (hu : un + 128 < cLine)
    (next : ∀ h' tk' m' la va ca, Fr h₀ L h' m' → News h₀ L h' (ledR L lk ld lp lq la vk vd vp vq va ck cd cp cq ca ox of op) → IntsAre va (zs (0 :: 16 ^ 12 :: ks)) → m' (Str.ofString "asked") = some (.ref la) → (∀ z, z ≠ Str.ofString "asked" → m' z = m z) → (@Ne Nat la lq ∧ @Ne Nat la lp ∧ @Ne Nat la lk ∧ @Ne Nat la ld ∧ @Ne Nat la (L + 1 + 1 + 1) ∧ @Ne Nat la (L + 1 + 1) ∧ @Ne Nat la (L + 1)) → Q .next { s with heap := h', toks := tk' }) :
    wpAny (model prg w) (lawA dp un gd L fa ccd outer) (exec (lawStmt 13) (lawEnv L fa ccd)) Q E s := by
  revert X T
  unfold prg KK TopH
  k_fill
  intro X T
  have F2 := fr_know F [(Str.ofString "keys", .ref lk)] (by simp [hm1])
  dsimp only [kstB] at F2
  clear F
  conv => enter [3, 1]; whnf
  k_steps
  rename News _ _ _ _ => hN
  rename Fr _ _ _ _ => hF
  rename IntsAre _ _ => hI
  rename _ ∧ _ => hA
  obtain ⟨a1, a2, a3, a4, a5, a6, a7, a8⟩ := hA
  have e : [0, (16 : Int) ^ Int.toNat 12] ++ zs ks = zs (0 :: 16 ^ 12 :: ks) := rfl
  rw [e] at hI
  refine' next _ _ _ _ _ _ hF (fun p hp => hN p ((List.mem_cons.mp hp).elim (fun e => e ▸ .head _) fun h => .tail _ (.tail _ h))) hI ?h1 ?h2 ⟨Nat.ne_of_gt a2, Nat.ne_of_gt a3, Nat.ne_of_gt a4, Nat.ne_of_gt a5, Nat.ne_of_gt a6, Nat.ne_of_gt a7, Nat.ne_of_gt a8⟩
  case h1 => with_unfolding_all rfl
  case h2 =>
    intro z hz
    refine (if_neg hz).trans ?_
    by_cases e : z = Str.ofString "keys"
    · rw [if_pos e, e, hm1]
    · rw [if_neg e]
set_option maxRecDepth 100000 in
set_option maxHeartbeats 1000000 in
theorem seg16 {w : World} {mean : ExcName → Option Value} {mg mb : Str → Option Value} {dp un : Nat} {gd : Option (List Code)} {L fa : Addr} {ccd : Value} {outer : List Env} {A₀ : Around} {base h₀ : Heap} {m : Str → Option Value} {s : Shared} {Q : Flow → Shared → Prop} {E : Value → Shared → Prop}
    {news : List (Addr × Obj)}
    (B : Below A₀ base outer h₀) (F : Fr h₀ L s.heap m) (X : (KK w).In h₀) (N : News h₀ L s.heap (news)) (T : TopH mean mg mb h₀) (hd : dp + 16 < recursionLimit) (hu : un + 128 < cLine)
    (next : ∀ h' tk', Fr h₀ L h' m → News h₀ L h' news → Q (.ret (.bool true)) { s with heap := h', toks := tk' }) :
    wpAny (model prg w) (lawA dp un gd L fa ccd outer) (exec (lawStmt 16) (lawEnv L fa ccd)) Q E s := by
  revert X T
  unfold prg KK TopH
  k_fill
  intro X T
  conv => enter [3, 1]; whnf
  k_steps
  exact next s.heap s.toks F N
end Mine
end

theorem Mine.calmW26 : True := by
  w_top off
  k_with_none
  k_with "k_ne" => (refine neN ?_; (try dsimp only); first | with_reducible assumption | with_reducible exact Ne.symm (by assumption))
  exact True.intro
section
open PySem PySem.W PyProof.Rows PySem.Calls PySem.Spec PyProof.V
namespace Mine
theorem drop_head {α : Type} (d : α) : ∀ (l : List α) (k : Nat), k < l.length → l.drop k = (l.drop k).headD d :: l.drop (k + 1)
  | [], k, h => by simp at h
  | a :: l, 0, _ => rfl
  | a :: l, k + 1, h => drop_head d l k (by simpa using h)
set_option maxRecDepth 100000 in
theorem body_length : lawBody.length = 17 := by rfl
theorem body_drop {k : Nat} (h : k < 17) : lawBody.drop k = lawStmt k :: lawBody.drop (k + 1) := drop_head _ lawBody k (by rw [body_length]; exact h)
theorem body_step {M : Model} {A : Around} {env : Env} {Q : Flow → Shared → Prop} {E : Value → Shared → Prop} {s : Shared} {k : Nat} (hk : k < 17)
    (h : wpAny M A (exec (lawStmt k) env) (fun f s' => match f with | .next => wpAny M A (execs (lawBody.drop (k + 1)) env) Q E s' | f => Q f s') E s) :
    wpAny M A (execs (lawBody.drop k) env) Q E s := by
  rw [body_drop hk]
  exact wpAny_execs_cons h
set_option maxRecDepth 100000 in
set_option maxHeartbeats 4000000 in
theorem chain {w : World} {mean : ExcName → Option Value} {mg mb : Str → Option Value} {dp un : Nat} {gd : Option (List Code)} {L fa : Addr} {ccd : Value} {outer : List Env} {A₀ : Around} {base h₀ : Heap} {m : Str → Option Value} {s : Shared} {Q : Flow → Shared → Prop} {E : Value → Shared → Prop}
    {lk ld ls : Addr} {vk vd vs : List Value} {ds ks : List Nat} {ns : List Int} {ck cd : Nat} {ox of op : Obj} {vx vf vp : Option Value}
    (B : Below A₀ base outer h₀) (F : Fr h₀ L s.heap m) (X : (KK w).In h₀) (N : News h₀ L s.heap (ledK L lk ld vk vd ck cd ox of op)) (T : TopH mean mg mb h₀) (hd : dp + 16 < recursionLimit) (hu : un + 128 < cLine)
    (hm1 : m (Str.ofString "keys") = some (.ref lk)) (hm2 : m (Str.ofString "drawn") = some (.ref ld)) (hm3 : m (Str.ofString "script") = some (.ref ls)) (hL : h₀.IsList ls vs.toArray) (hI : IntsAre vs ns) (hc : ¬ (63 : Int) < ns.length)
    (hi : IntsAre vd (zs ds)) (hik : IntsAre vk (zs ks)) (hd0 : 0 < ds.length) (hdl : ds.length ≤ 7) (hdb : ∀ d ∈ ds, d < 2 ^ 48) (hk : KeysOf ds ks)
    (hox : ox.data = .cell vx) (hof : of.data = .cell vf) (hop : op.data = .cell vp)
    (hne : @Ne Nat lk ld ∧ @Ne Nat lk (L + 1 + 1 + 1) ∧ @Ne Nat lk (L + 1 + 1) ∧ @Ne Nat lk (L + 1) ∧ @Ne Nat ld (L + 1 + 1 + 1) ∧ @Ne Nat ld (L + 1 + 1) ∧ @Ne Nat ld (L + 1))
    (ret : ∀ h' tk' dr' m', Fr h₀ L h' m' → Q (.ret (.bool true)) { s with heap := h', toks := tk', drawn := dr' })
    (hE : PassesOwn (model prg w) (lawA dp un gd L fa ccd outer) (lawEnv L fa ccd) E) :
    wpAny (model prg w) (lawA dp un gd L fa ccd outer) (execs (lawBody.drop 3) (lawEnv L fa ccd)) Q E s := by
  have hkl : ks.length ≤ 7 := Nat.le_trans hk.2.2 hdl
  have hb : ∀ k ∈ ks, k < 2 ^ 48 := fun k h => hdb k ((hk.2.1 k).mp h)
  have hk0 : 0 < ks.length := by
    obtain ⟨d, hd'⟩ : ∃ d, d ∈ ds := ⟨ds[0], List.getElem_mem hd0⟩
    exact List.length_pos_of_mem ((hk.2.1 d).mpr hd')
  have hpl : (psOf ks).length ≤ 7 := by have := ps_length ks; omega
  have hpp : ∀ p ∈ psOf ks, p < 64 := fun p hp => by have := ps_lt hp; omega
  have hss := ss_rising hk.1 hb
  have hsl : (ssOf ks).length ≤ 7 := by rw [ss_length]; exact hkl
  refine body_step (by decide) (seg3 B F X N T hd hu hm1 hm2 hi hik hdl hk fun h1 tk1 dr1 F N => ?_)
  refine body_step (by decide) (seg4 hof ⟨hne.2.2.1, hne.2.2.2.2.2.1⟩ B F X N T hd hu fun h1 tk1 of t0 F N hof => ?_)
  refine body_step (by decide) (seg5 B F X N T hd hu hm1 hm3 hik hkl hk0 hk.1 hb hof hne (fun h1 tk1 m of t0 F N hof hm1 hm3 => ?_) hE)
  refine body_step (by decide) (seg6 B F X N T hd hu hof hop hne fun h1 tk1 op lp vps cp F N hip hop hnp => ?_)
  refine body_step (by decide) (seg7 (ls := .ref ls) B F X N T hd hu hm1 hm3 hop hik hip hkl hpl hpp fun h1 tk1 m lq vq cq F N hiq hm1 hm3 hm4 hnq => ?_)
  refine body_step (by decide) (seg8 B F X N T hd hu hm4 hiq hsl hss fun h1 tk1 dr1 F N => ?_)
  refine body_step (by decide) (seg9 B F X N T hd hu fun h1 tk1 m2 t1 F N g1 g2 => ?_)
  have hm1' := (g2 (Str.ofString "keys") (by decide)).trans hm1
  have hm3' := (g2 (Str.ofString "script") (by decide)).trans hm3
  have hm4' := (g2 (Str.ofString "sketches") (by decide)).trans hm4
  refine body_step (by decide) (seg10 B F X N T hd hu fun h1 tk1 m3 t2 F N g3 g4 => ?_)
  have hm1 := (g4 (Str.ofString "keys") (by decide)).trans hm1'
  have hm3 := (g4 (Str.ofString "script") (by decide)).trans hm3'
  have hm4 := (g4 (Str.ofString "sketches") (by decide)).trans hm4'
  have hm5 := (g4 (Str.ofString "ones") (by decide)).trans g1
  refine body_step (by decide) (seg11 (ks := ks) B F X N T hd hu hm4 hm5 g3 hm1 hm3 hiq hsl (ss_small hkl) (fun h1 tk1 m4 u1 u2 F N e1 e2 e3 e4 e5 => ?_) hE)
  refine body_step (by decide) (seg12 e5 hL hI hc B F X N T hd hu fun h1 tk1 m5 dv td F N f1 f2 => ?_)
  have i1 := (f2 (Str.ofString "sketches") (by decide)).trans e1
  have i2 := (f2 (Str.ofString "ones") (by decide)).trans e2
  have i3 := (f2 (Str.ofString "packed") (by decide)).trans e3
  have i4 := (f2 (Str.ofString "keys") (by decide)).trans e4
  refine body_step (by decide) (seg13 i4 hik hkl B F X N T hd hu fun h1 tk1 m6 la va ca F N hia f3 f4 hna => ?_)
  have j1 := (f4 (Str.ofString "sketches") (by decide)).trans i1
  have j2 := (f4 (Str.ofString "ones") (by decide)).trans i2
  have j3 := (f4 (Str.ofString "packed") (by decide)).trans i3
  have j4 := (f4 (Str.ofString "keys") (by decide)).trans i4
  have j5 := (f4 (Str.ofString "draw") (by decide)).trans f1
  have hab : ∀ a ∈ 0 :: 16 ^ 12 :: ks, a < 2 ^ 49 := fun a ha => by
    rcases List.mem_cons.mp ha with rfl | ha
    · exact Nat.two_pow_pos _
    · rcases List.mem_cons.mp ha with rfl | ha
      · decide
      · exact Nat.lt_trans (hb a ha) (by decide)
  refine body_step (by decide) (seg14 B F X N T hd hu j1 j2 j3 j4 j5 f3 hik hkl hb hia (by simp only [List.length_cons]; omega) hab hna (fun h1 tk1 m7 va2 as2 ca2 F N k1 k2 k3 k4 k5 k6 k7 k8 => ?_) hE)
  rw [List.length_map] at k5
  refine body_step (by decide) (seg15 B F X N T hd hu k4 k5 k6 k7 k8 hop hox hik hip hiq hk0 hkl hk.1 ⟨hb⟩ k1 k2 (fun a ha => ⟨k3 a ha⟩)
    ⟨hna.2.2.2.2.2.2, Ne.symm hnq.2.2.2.2.2, Ne.symm hnp.2.2.2.2, hne.2.2.2.1, hne.2.2.2.2.2.2⟩ (fun h1 tk1 m8 ox F N => ?_) hE)
  exact body_step (by decide) (seg16 B F X N T hd hu fun h1 tk1 F N => ret _ _ _ _ F)
end Mine
end

theorem Mine.calmW27 : True := by
  w_top off
  k_with_none
  k_with "k_ne" => (refine neN ?_; (try dsimp only); first | with_reducible assumption | with_reducible exact Ne.symm (by assumption))
  exact True.intro
section
open PySem PySem.W PyProof.Rows PySem.Calls PySem.Spec PyProof.V
namespace Mine
def drawnN (ns : List Int) : List Nat := (ns.take 3 ++ [23130, 23205, 1515870810, 1515870885]).map fun k => (Int.fmod k (16 ^ Int.toNat 12)).toNat
theorem pow_12 : (16 : Int) ^ Int.toNat 12 = 281474976710656 := by decide
theorem drawn_zs (ns : List Int) : (ns.take 3 ++ [23130, 23205, 1515870810, 1515870885]).map (fun k' => Int.fmod k' (16 ^ Int.toNat 12)) = zs (drawnN ns) := by
  unfold drawnN zs
  rw [List.map_map]
  apply List.map_congr_left
  intro k _
  simp only [Function.comp_apply, pow_12]
  have := Int.fmod_nonneg_of_pos k (show (0 : Int) < 281474976710656 by decide)
  omega
theorem drawn_lt (ns : List Int) : ∀ d ∈ drawnN ns, d < 2 ^ 48 := by
  intro d hd
  obtain ⟨k, _, rfl⟩ := List.mem_map.mp hd
  rw [pow_12]
  have h1 := Int.fmod_nonneg_of_pos k (show (0 : Int) < 281474976710656 by decide)
  have h2 := Int.fmod_lt_of_pos k (show (0 : Int) < 281474976710656 by decide)
  have h3 : (2 : Nat) ^ 48 = 281474976710656 := by decide
  omega
theorem drawn_length (ns : List Int) : 0 < (drawnN ns).length ∧ (drawnN ns).length ≤ 7 := by
  unfold drawnN
  rw [List.length_map, List.length_append, List.length_take]
  simp only [List.length_cons, List.length_nil]
  omega
set_option maxRecDepth 100000 in
set_option maxHeartbeats 4000000 in
theorem finish {w : World} {mean : ExcName → Option Value} {mg mb : Str → Option Value} {dp un : Nat} {gd : Option (List Code)} {L fa : Addr} {ccd : Value} {outer : List Env} {A₀ : Around} {base h₀ : Heap} {m : Str → Option Value} {s : Shared} {Q : Flow → Shared → Prop} {E : Value → Shared → Prop}
    {lk ld ls : Addr} {vd vs : List Value} {ns : List Int} {cd : Nat} {ox of op : Obj} {vx vf vp : Option Value} {news : List (Addr × Obj)}
    (B : Below A₀ base outer h₀) (F : Fr h₀ L s.heap m) (X : (KK w).In h₀) (N : News h₀ L s.heap news) (T : TopH mean mg mb h₀) (hd : dp + 16 < recursionLimit) (hu : un + 128 < cLine)
    (hm1 : m (Str.ofString "keys") = some (.ref lk)) (hm2 : m (Str.ofString "drawn") = some (.ref ld)) (hm3 : m (Str.ofString "script") = some (.ref ls)) (hL : h₀.IsList ls vs.toArray) (hI : IntsAre vs ns) (hc : ¬ (63 : Int) < ns.length)
    (n1 : (lk, listOf #[] 0) ∈ news) (n2 : (ld, listOf vd.toArray cd) ∈ news) (n3 : (L + 1 + 1 + 1, op) ∈ news) (n4 : (L + 1 + 1, of) ∈ news) (n5 : (L + 1, ox) ∈ news)
    (hi : IntsAre vd ((ns.take 3 ++ [23130, 23205, 1515870810, 1515870885]).map (fun k' => Int.fmod k' (16 ^ Int.toNat 12))))
    (hox : ox.data = .cell vx) (hof : of.data = .cell vf) (hop : op.data = .cell vp)
    (q1 : @Ne Nat lk ld) (q2 : @Ne Nat lk (L + 1 + 1 + 1)) (q3 : @Ne Nat lk (L + 1 + 1)) (q4 : @Ne Nat lk (L + 1)) (q5 : @Ne Nat ld (L + 1 + 1 + 1)) (q6 : @Ne Nat ld (L + 1 + 1)) (q7 : @Ne Nat ld (L + 1))
    (ret : ∀ h' tk' dr' m', Fr h₀ L h' m' → Q (.ret (.bool true)) { s with heap := h', toks := tk', drawn := dr' })
    (hE : PassesOwn (model prg w) (lawA dp un gd L fa ccd outer) (lawEnv L fa ccd) E) :
    wpAny (model prg w) (lawA dp un gd L fa ccd outer) (exec (lawStmt 2) (lawEnv L fa ccd)) (fun f s' => match f with | .next => wpAny (model prg w) (lawA dp un gd L fa ccd outer) (execs (lawBody.drop 3) (lawEnv L fa ccd)) Q E s' | f => Q f s') E s := by
  rw [drawn_zs] at hi
  have N' : News h₀ L s.heap (ledK L lk ld [] vd 0 cd ox of op) := by
    intro p hp
    simp only [List.mem_cons, List.not_mem_nil, or_false] at hp
    rcases hp with rfl | rfl | rfl | rfl | rfl
    · exact N _ n1
    · exact N _ n2
    · exact N _ n3
    · exact N _ n4
    · exact N _ n5
  refine seg2 B F X N' T hd hu hm1 hm2 hm3 hi (drawn_length ns).2 hox ⟨q1, q2, q3, q4, q5, q6, q7⟩ (fun h1 tk1 m1 vk ks ck ox1 F1 N1 hik hk hox1 e1 e2 e3 => ?_) hE
  obtain ⟨vx1, hox1⟩ := hox1
  exact chain B F1 X N1 T hd hu e1 e2 e3 hL hI hc hi hik (drawn_length ns).1 (drawn_length ns).2 (drawn_lt ns) hk hox1 hof hop ⟨q1, q2, q3, q4, q5, q6, q7⟩ (fun h' tk' dr' m' F' => ret h' tk' dr' m' F') hE
end Mine
end

theorem Mine.calmW28 : True := by
  w_top off
  k_with_none
  k_with "k_ne" => (refine neN ?_; (try dsimp only); first | with_reducible assumption | with_reducible exact Ne.symm (by assumption))
  exact True.intro
section
open PySem PySem.W PyProof.Rows PySem.Calls PySem.Spec PyProof.V
namespace Mine
theorem news_mid {h₀ h : Heap} {L : Addr} {a b c d e : Addr × Obj} {rest : List (Addr × Obj)} (N : News h₀ L h (a :: b :: c :: d :: e :: rest)) : News h₀ L h (a :: rest) := fun p hp => N p (by
  rcases List.mem_cons.mp hp with e | h
  · rw [e]; exact .head _
  · exact .tail _ (.tail _ (.tail _ (.tail _ (.tail _ h)))))
set_option maxRecDepth 100000 in
set_option maxHeartbeats 2000000 in
theorem seg0 {w : World} {mean : ExcName → Option Value} {mg mb : Str → Option Value} {dp un : Nat} {gd : Option (List Code)} {L fa : Addr} {ccd : Value} {outer : List Env} {A₀ : Around} {base h₀ : Heap} {m : Str → Option Value} {s : Shared} {Q : Flow → Shared → Prop} {E : Value → Shared → Prop}
    {ls : Addr} {vs : List Value} {ns : List Int} {ox of op : Obj} (hm1 : m (Str.ofString "script") = some (.ref ls)) (hL : h₀.IsList ls vs.toArray) (hI : IntsAre vs ns) (hc : ¬ ((63 : Nat) : Int) < ns.length)
    (B : Below A₀ base outer h₀) (F : Fr h₀ L s.heap m) (X : (KK w).In h₀) (N : News h₀ L s.heap [(L + 1 + 1 + 1, op), (L + 1 + 1, of), (L + 1, ox)]) (T : TopH mean mg mb h₀) (hd : dp + 16 < recursionLimit) (hu : un + 128 < cLine)
    (next : ∀ h' tk' m' ld vd cd, Fr h₀ L h' m' → News h₀ L h' ((ld, listOf vd.toArray cd) :: [(L + 1 + 1 + 1, op), (L + 1 + 1, of), (L + 1, ox)]) → IntsAre vd ((ns.take 3 ++ [23130, 23205, 1515870810, 1515870885]).map (fun k' => Int.fmod k' (16 ^ Int.toNat 12))) → m' (Str.ofString "drawn") = some (.ref ld) → m' (Str.ofString "script") = some (.ref ls) → (@Ne Nat (L + 1 + 1 + 1) ld ∧ @Ne Nat (L + 1 + 1) ld ∧ @Ne Nat (L + 1) ld) → Q .next { s with heap := h', toks := tk' }) :
    wpAny (model prg w) (lawA dp un gd L fa ccd outer) (exec (lawStmt 0) (lawEnv L fa ccd)) Q E s := by
  revert X T
  unfold prg KK TopH
  k_fill
  intro X T
  have F2 := fr_know F [(Str.ofString "script", .ref ls)] (by simpa using hm1)
  dsimp only [kstB] at F2
  clear F
  conv => enter [3, 1]; whnf
  k_steps
  rename News _ _ _ _ => hN
  rename Fr _ _ _ _ => hF
  rename IntsAre _ (List.map _ _) => hi
  rename _ ∧ _ => hA
  exact next _ _ _ _ _ _ hF (news_mid hN) hi (by with_unfolding_all rfl) (by with_unfolding_all rfl) ⟨neN hA.2.2.2.2.1, neN hA.2.2.2.2.2.1, neN hA.2.2.2.2.2.2⟩
set_option maxRecDepth 100000 in
set_option maxHeartbeats 2000000 in
theorem seg1 {w : World} {mean : ExcName → Option Value} {mg mb : Str → Option Value} {dp un : Nat} {gd : Option (List Code)} {L fa : Addr} {ccd : Value} {outer : List Env} {A₀ : Around} {base h₀ : Heap} {m : Str → Option Value} {s : Shared} {Q : Flow → Shared → Prop} {E : Value → Shared → Prop}
    {ls ld : Addr} {vd : List Value} {cd : Nat} {ox of op : Obj} (hm1 : m (Str.ofString "script") = some (.ref ls)) (hm2 : m (Str.ofString "drawn") = some (.ref ld))
    (B : Below A₀ base outer h₀) (F : Fr h₀ L s.heap m) (X : (KK w).In h₀) (N : News h₀ L s.heap ((ld, listOf vd.toArray cd) :: [(L + 1 + 1 + 1, op), (L + 1 + 1, of), (L + 1, ox)])) (T : TopH mean mg mb h₀) (hd : dp + 16 < recursionLimit) (hu : un + 128 < cLine)
    (next : ∀ h' tk' m' lk, Fr h₀ L h' m' → News h₀ L h' ((lk, listOf #[] 0) :: (ld, listOf vd.toArray cd) :: [(L + 1 + 1 + 1, op), (L + 1 + 1, of), (L + 1, ox)]) → m' (Str.ofString "keys") = some (.ref lk) → m' (Str.ofString "drawn") = some (.ref ld) → m' (Str.ofString "script") = some (.ref ls) → (@Ne Nat lk ld ∧ @Ne Nat lk (L + 1 + 1 + 1) ∧ @Ne Nat lk (L + 1 + 1) ∧ @Ne Nat lk (L + 1)) → Q .next { s with heap := h', toks := tk' }) :
    wpAny (model prg w) (lawA dp un gd L fa ccd outer) (exec (lawStmt 1) (lawEnv L fa ccd)) Q E s := by
  revert X T
  unfold prg KK TopH
  k_fill
  intro X T
  have F2 := fr_know F [(Str.ofString "drawn", .ref ld), (Str.ofString "script", .ref ls)] (by simp [hm1, hm2])
  dsimp only [kstB] at F2
  clear F
  conv => enter [3, 1]; whnf
  k_steps
  rename News _ _ _ _ => hN
  rename Fr _ _ _ _ => hF
  rename _ ∧ _ => hA
  exact next _ _ _ _ hF hN (by with_unfolding_all rfl) (by with_unfolding_all rfl) (by with_unfolding_all rfl) ⟨Nat.ne_of_gt hA.1, Nat.ne_of_gt hA.2.1, Nat.ne_of_gt hA.2.2.1, Nat.ne_of_gt hA.2.2.2⟩
set_option maxHeartbeats 4000000 in
set_option maxRecDepth 100000 in
theorem whole {w : World} {mean : ExcName → Option Value} {mg mb : Str → Option Value} {dp un : Nat} {gd : Option (List Code)} {L fa : Addr} {ccd : Value} {outer : List Env} {A₀ : Around} {base h₀ : Heap} {m : Str → Option Value} {s : Shared} {Q : Flow → Shared → Prop} {E : Value → Shared → Prop}
    {ls : Addr} {vs : List Value} {ns : List Int} {ox of op : Obj} {vx vf vp : Option Value} (hm1 : m (Str.ofString "script") = some (.ref ls)) (hL : h₀.IsList ls vs.toArray) (hI : IntsAre vs ns) (hc : ¬ ((63 : Nat) : Int) < ns.length)
    (hox : ox.data = .cell vx) (hof : of.data = .cell vf) (hop : op.data = .cell vp)
    (B : Below A₀ base outer h₀) (F : Fr h₀ L s.heap m) (X : (KK w).In h₀) (N : News h₀ L s.heap [(L + 1 + 1 + 1, op), (L + 1 + 1, of), (L + 1, ox)]) (T : TopH mean mg mb h₀) (hd : dp + 16 < recursionLimit) (hu : un + 128 < cLine)
    (ret : ∀ h' tk' dr' m', Fr h₀ L h' m' → Q (.ret (.bool true)) { s with heap := h', toks := tk', drawn := dr' })
    (hE : PassesOwn (model prg w) (lawA dp un gd L fa ccd outer) (lawEnv L fa ccd) E) :
    wpAny (model prg w) (lawA dp un gd L fa ccd outer) (execs lawBody (lawEnv L fa ccd)) Q E s := by
  refine body_step (k := 0) (by decide) (seg0 hm1 hL hI hc B F X N T hd hu fun h1 tk1 m1 ld vd cd F1 N1 hi e1 e2 q => ?_)
  refine body_step (by decide) (seg1 e2 e1 B F1 X N1 T hd hu fun h2 tk2 m2 lk F2 N2 f1 f2 f3 r => ?_)
  refine body_step (by decide) ?_
  exact finish B F2 X N2 T hd hu f1 f2 f3 hL hI hc (.head _) (.tail _ (.head _)) (.tail _ (.tail _ (.head _))) (.tail _ (.tail _ (.tail _ (.head _)))) (.tail _ (.tail _ (.tail _ (.tail _ (.head _))))) hi hox hof hop
    r.1 r.2.1 r.2.2.1 r.2.2.2 (Ne.symm q.1) (Ne.symm q.2.1) (Ne.symm q.2.2) (fun h' tk' dr' m' F' => ret h' tk' dr' m' F') hE
end Mine
end

theorem Mine.calmMain : True := by
  w_top off
  k_with_none
  k_with "k_ne" => (refine neN ?_; (try dsimp only); first | with_reducible assumption | with_reducible exact Ne.symm (by assumption))
  exact True.intro
open PySem PySem.W PyProof.Rows PySem.Calls PySem.Spec PyProof.V
open Mine
set_option maxRecDepth 100000 in
set_option maxHeartbeats 8000000 in
theorem PySem.Challenge.cw_wu0040_01_holds : PySem.Challenge.rw_wu0040_01.Holds := by
  exact Mine.hd (by
  w_strict (k_go0; (all_goals try k_fold)
            rename Top _ _ _ _ _ _ => hT
            rename Below _ _ _ _ => hB
            rename Frag.In _ _ => hX
            rename News _ _ _ _ => hN
            rename Fr _ _ _ _ => hF
            rename Heap.IsList _ _ _ => hL
            refine' whole (outer := []) ?m1 hL ?hI ?hc ?hox ?hof ?hop hB hF hX hN hT ?hd ?hu ?ret ?hE
            case m1 => with_unfolding_all rfl
            case hd => first | ktr_room | decide +kernel
            case hu => first | ktr_units | decide +kernel
            case hI => assumption
            case hc => assumption
            case hox => assumption
            case hof => assumption
            case hop => assumption
            case hE => passes_own
            case ret =>
              intro h' tk' dr' m' F'
              k_steps))
