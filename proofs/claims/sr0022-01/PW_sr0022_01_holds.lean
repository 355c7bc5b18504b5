import PyProof.Rows.All
import Wide.All
import OpenK.AllK
import Wide.FinOn
import Lean
import PySem.Challenge.RW_sr0022_01
open PySem PySem.W PyProof.Rows
set_option Elab.async false
namespace Mine
set_option maxRecDepth 100000 in
set_option maxHeartbeats 8000000 in
open_top hd for PySem.Challenge.rw_sr0022_01

local macro_rules | `(tactic| k_enter) => `(tactic| (refine' code_def ?k1 ?k2 ?k3 ?k4 ?k5 ?kA ?kF ?kK ?k6 ?k7 ?k8 ?k9 ?kB ?_ ?c2 ?c3 ?c4 ?c5; (case kA => exact rfl); (case kF => exact rfl); (case kK => first | exact rfl | assumption); (case k1 => k_asm); (case k2 => k_asm); (case k3 => k_asm); (case k4 => k_asm); (case k5 => k_asm); (case k6 => k_is); (case k7 => k_is); (case k8 => first | k_room | ktr_room); (case k9 => first | exact BindsTo.of_eq rfl | exact binds_K (by k_in) rfl (by k_is) rfl rfl rfl | (refine' kp_binds ?kx ?ke; (case kx => k_in); (case ke => exact fun _ => rfl))); (case c5 => decide); (case kB => exact locs rfl); (case c2 => exact rfl); (case c3 => exact rfl); (case c4 => exact rfl); k_whole; intro g' L' h' FG' F' N' B' X' T'; (try dsimp only); (try k_lift B'); (try k_fold)))
local macro_rules | `(tactic| walk_at $s:str) => `(tactic| k_extra $s)
/-- a mark: the walk stops here -/
def Stop (P : Prop) : Prop := P
theorem Stop.out {P : Prop} (h : Stop P) : P := h

/-- what a call of the def at f with these arguments does, over a ledger led: it hands back some r, the ledger is led', Ret r led'; D frames deep -/
abbrev CallC (w : World) (D : Nat) (f : Addr) (args : List Value) (led : List (Addr × Obj)) (Ret : Value → List (Addr × Obj) → Prop) : Prop :=
  ∀ (loose : List Str) (mean : ExcName → Option Value) (mg mb : Str → Option Value) (dp un : Nat) (gd : Option (List Code)) (cn : Str) (cs : Scope) (a : Addr) (ccd : Value) (cl : List (Str × Addr)) (outer : List Env) (A₀ : Around) (base h₀ : Heap) (L : Addr) (m : Str → Option Value) (s : Shared) (Q E : Value → Shared → Prop),
    Below A₀ base outer h₀ → Fr h₀ L s.heap m → (hd.heap_39 w.params).In h₀ → News h₀ L s.heap led → Top hd.view_39 loose mean mg mb h₀ → cs.kind = .function → dp + D < recursionLimit → un + 8 * D < cLine →
    (∀ r led' h' tk', Fr h₀ L h' m → News h₀ L h' led' → Ret r led' → Q r { s with heap := h', toks := tk' }) →
    wpAny (model PySem.Challenge.rw_sr0022_01.prog w) (ktrTop dp un gd cn cs L a ccd cl outer) (call (.ref f) args) Q E s

theorem ne2 {z a b : Str} {x y : Value} (h : ∀ p ∈ [(a, x), (b, y)], z ≠ p.1) : z ≠ a ∧ z ≠ b := ⟨h _ (.head _), h _ (.tail _ (.head _))⟩
theorem ne1 {z a : Str} (h : [a].contains z = false) : z ≠ a := fun e => by subst e; simp at h
theorem callC_use {w : World} {D : Nat} {f : Addr} {args : List Value} {led : List (Addr × Obj)} {Ret : Value → List (Addr × Obj) → Prop} (C : CallC w D f args led Ret)
    {loose : List Str} {mean : ExcName → Option Value} {mg mb : Str → Option Value} {dp un : Nat} {gd : Option (List Code)} {cn : Str} {cs : Scope} {a : Addr} {ccd : Value} {cl : List (Str × Addr)} {outer : List Env} {A₀ : Around} {base h₀ : Heap} {L : Addr} {m : Str → Option Value} {s : Shared} {Q E : Value → Shared → Prop}
    (B : Below A₀ base outer h₀) (F : Fr h₀ L s.heap m) (X : (hd.heap_39 w.params).In h₀) (N : News h₀ L s.heap led) (T : Top hd.view_39 loose mean mg mb h₀) (hk : cs.kind = .function) (hd : dp + D < recursionLimit) (hu : un + 8 * D < cLine)
    (ret : ∀ r led' h' tk', Fr h₀ L h' m → News h₀ L h' led' → Ret r led' → Q r { s with heap := h', toks := tk' }) :
    wpAny (model PySem.Challenge.rw_sr0022_01.prog w) (ktrTop dp un gd cn cs L a ccd cl outer) (call (.ref f) args) Q E s :=
  C loose mean mg mb dp un gd cn cs a ccd cl outer A₀ base h₀ L m s Q E B F X N T hk hd hu ret

/-- how many of the ints are at most x -/
def cntLe (ns : List Int) (x : Int) : Int := ((ns.countP fun v => decide (v ≤ x) : Nat) : Int)
def BisInv (ns : List Int) (x lo hi : Int) : Prop := (0 ≤ lo ∧ lo ≤ hi) ∧ hi ≤ ns.length ∧ (∀ i : Nat, (i : Int) < lo → ns.getD i 0 ≤ x) ∧ ∀ i : Nat, hi ≤ (i : Int) → i < ns.length → x < ns.getD i 0
theorem bisInv0 {ns : List Int} {x : Int} : BisInv ns x 0 ns.length := ⟨⟨by omega, by omega⟩, by omega, fun i h => by omega, fun i h h2 => by omega⟩
theorem sorted_getD {ns : List Int} (hs : ns.Pairwise (· < ·)) {i j : Nat} (hij : i ≤ j) (hj : j < ns.length) : ns.getD i 0 ≤ ns.getD j 0 := by
  rcases Nat.lt_or_eq_of_le hij with h | rfl
  · have := List.pairwise_iff_getElem.mp hs i j (by omega) hj h
    rw [List.getD_eq_getElem?_getD, List.getD_eq_getElem?_getD, List.getElem?_eq_getElem (by omega : i < ns.length), List.getElem?_eq_getElem hj]
    exact Int.le_of_lt this
  · exact Int.le_refl _
theorem mid_facts {lo hi : Int} (h0 : 0 ≤ lo) (h : lo < hi) : lo ≤ (lo + hi).fdiv 2 ∧ (lo + hi).fdiv 2 < hi := by
  have := Int.fdiv_eq_ediv_of_nonneg (lo + hi) (b := 2) (by omega)
  omega
theorem bisHi {ns : List Int} {x lo hi : Int} (hs : ns.Pairwise (· < ·)) (I : BisInv ns x lo hi) (h : lo < hi) (c : x < ns.getD ((lo + hi).fdiv 2).toNat 0) : BisInv ns x lo ((lo + hi).fdiv 2) := by
  obtain ⟨⟨a, b⟩, d, e, f⟩ := I
  obtain ⟨m1, m2⟩ := mid_facts a h
  generalize (lo + hi).fdiv 2 = mid at *
  refine ⟨⟨a, m1⟩, by omega, e, fun i h1 h2 => ?_⟩
  exact Int.lt_of_lt_of_le c (sorted_getD hs (by omega) h2)
theorem bisLo {ns : List Int} {x lo hi : Int} (hs : ns.Pairwise (· < ·)) (I : BisInv ns x lo hi) (h : lo < hi) (c : ¬ x < ns.getD ((lo + hi).fdiv 2).toNat 0) : BisInv ns x ((lo + hi).fdiv 2 + 1) hi := by
  obtain ⟨⟨a, b⟩, d, e, f⟩ := I
  obtain ⟨m1, m2⟩ := mid_facts a h
  generalize (lo + hi).fdiv 2 = mid at *
  refine ⟨⟨by omega, by omega⟩, d, fun i h1 => ?_, f⟩
  exact Int.le_trans (sorted_getD hs (by omega) (by omega)) (Int.not_lt.mp c)
theorem count_split {ns : List Int} {x : Int} {k : Nat} (hk : k ≤ ns.length) (h1 : ∀ i : Nat, i < k → ns.getD i 0 ≤ x) (h2 : ∀ i : Nat, k ≤ i → i < ns.length → x < ns.getD i 0) : ns.countP (fun v => decide (v ≤ x)) = k := by
  induction ns generalizing k with
  | nil => simp at hk; subst hk; rfl
  | cons v r ih =>
    cases k with
    | zero =>
      have hv : x < v := by simpa using h2 0 (Nat.le_refl _) (by simp)
      rw [List.countP_cons_of_neg (by simpa using hv)]
      exact ih (Nat.zero_le _) (fun i hi => absurd hi (Nat.not_lt_zero _)) (fun i _ hi => by simpa using h2 (i + 1) (Nat.zero_le _) (by simpa using hi))
    | succ k =>
      have hv : v ≤ x := by simpa using h1 0 (Nat.succ_pos _)
      rw [List.countP_cons_of_pos (by simpa using hv)]
      rw [ih (k := k) (by simpa using hk) (fun i hi => by simpa using h1 (i + 1) (by omega)) (fun i hi hi2 => by simpa using h2 (i + 1) (by omega) (by simpa using hi2))]
theorem bisEnd {ns : List Int} {x lo hi : Int} (I : BisInv ns x lo hi) (h : ¬ lo < hi) : cntLe ns x = lo := by
  obtain ⟨⟨a, b⟩, d, e, f⟩ := I
  unfold cntLe
  rw [count_split (k := lo.toNat) (by omega) (fun i hi => e i (by omega)) (fun i hi hi2 => f i (by omega) hi2)]
  omega

set_option maxRecDepth 100000 in
set_option maxHeartbeats 8000000 in
theorem bis2 : ∀ (w : World) (news : List (Addr × Obj)) (sh : Addr) (vs : List Value) (ns : List Int) (n : Nat) (x : Int) (tx t0 : Tok), IntsAre vs ns → ns.length ≤ 8 → ns.Pairwise (· < ·) →
    CallC w 1 32 [.ref sh, .int x tx] ((sh, listOf vs.toArray n) :: news) (fun r led' => (∃ t, r = .int (cntLe ns x) t) ∧ led' = (sh, listOf vs.toArray n) :: news) := by
  intro w news sh vs ns n x tx t0 hi hlen hs
  w_top off
  unfold CallC
  k_fill
  intro loose mean mg mb dp un gd cn cs a ccd cl outer A₀ base h₀ L m s Q E B F X N T hk hdp hun hret
  k_with_none
  k_with "exec While Compare cons nil" => ((rename Fr _ _ _ _ => lF'); (rename News _ _ _ _ => lN'); (with_unfolding_all refine' ksw_while (fun _ => (sh, listOf vs.toArray n) :: news) (fun c : Int × Tok × Int × Tok => [(Str.ofString "lo", Value.int c.1 c.2.1), (Str.ofString "hi", Value.int c.2.2.1 c.2.2.2)]) (fun _ => True) [Str.ofString "mid"] (fun c => BisInv ns x c.1 c.2.2.1) (fun c => (c.2.2.1 - c.1).toNat) (0, _, (ns.length : Int), _) lF' lN' trivial ?kk ?kp ?_); (case kk => kst_all); (case kp => exact bisInv0); (clear lF' lN'); (rintro ⟨lo, t1, hi, t2⟩ u h tk _ I F' N'); (try dsimp only at I); (try dsimp only at F'); (try dsimp only); (have Ia := I.1); (have Ib := I.2.1); (try k_fold))
  k_with "KswEnd" => (
    refine' ksw_end (_, _, _, _) (by assumption) (by assumption) (fun p hp => hp) trivial (by kst_all) ?s ?i ?m
    (case s => (intro z h2 h3; obtain ⟨a1, a2⟩ := ne2 h2; have a3 := ne1 h3; simp only [kstB, if_neg a1, if_neg a2, if_neg a3, h3, Bool.false_eq_true, if_false]))
    (case i => first | exact bisHi hs I (by assumption) (by assumption) | exact bisLo hs I (by assumption) (by assumption))
    (case m => have := mid_facts Ia.1 (by assumption); dsimp only; omega))
  refine wpAny_call ?_
  k_dflt k_enter
  k_steps
  all_goals k_with_none
  exact hret _ _ _ _ (by assumption) (by assumption) ⟨⟨_, by rw [bisEnd I (by assumption)]⟩, rfl⟩
set_option maxRecDepth 100000 in
set_option maxHeartbeats 8000000 in
theorem bis4 : ∀ (w : World) (news : List (Addr × Obj)) (sh : Addr) (vs : List Value) (ns : List Int) (n : Nat) (x : Int) (tx t0 : Tok), IntsAre vs ns → ns.length ≤ 8 → ns.Pairwise (· < ·) →
    CallC w 1 32 [.ref sh, .int x tx, .int 0 t0, .none] ((sh, listOf vs.toArray n) :: news) (fun r led' => (∃ t, r = .int (cntLe ns x) t) ∧ led' = (sh, listOf vs.toArray n) :: news) := by
  intro w news sh vs ns n x tx t0 hi hlen hs
  w_top off
  unfold CallC
  k_fill
  intro loose mean mg mb dp un gd cn cs a ccd cl outer A₀ base h₀ L m s Q E B F X N T hk hdp hun hret
  k_with_none
  k_with "exec While Compare cons nil" => ((rename Fr _ _ _ _ => lF'); (rename News _ _ _ _ => lN'); (with_unfolding_all refine' ksw_while (fun _ => (sh, listOf vs.toArray n) :: news) (fun c : Int × Tok × Int × Tok => [(Str.ofString "lo", Value.int c.1 c.2.1), (Str.ofString "hi", Value.int c.2.2.1 c.2.2.2)]) (fun _ => True) [Str.ofString "mid"] (fun c => BisInv ns x c.1 c.2.2.1) (fun c => (c.2.2.1 - c.1).toNat) (0, _, (ns.length : Int), _) lF' lN' trivial ?kk ?kp ?_); (case kk => kst_all); (case kp => exact bisInv0); (clear lF' lN'); (rintro ⟨lo, t1, hi, t2⟩ u h tk _ I F' N'); (try dsimp only at I); (try dsimp only at F'); (try dsimp only); (have Ia := I.1); (have Ib := I.2.1); (try k_fold))
  k_with "KswEnd" => (
    refine' ksw_end (_, _, _, _) (by assumption) (by assumption) (fun p hp => hp) trivial (by kst_all) ?s ?i ?m
    (case s => (intro z h2 h3; obtain ⟨a1, a2⟩ := ne2 h2; have a3 := ne1 h3; simp only [kstB, if_neg a1, if_neg a2, if_neg a3, h3, Bool.false_eq_true, if_false]))
    (case i => first | exact bisHi hs I (by assumption) (by assumption) | exact bisLo hs I (by assumption) (by assumption))
    (case m => have := mid_facts Ia.1 (by assumption); dsimp only; omega))
  refine wpAny_call ?_
  k_dflt k_enter
  k_steps
  all_goals k_with_none
  exact hret _ _ _ _ (by assumption) (by assumption) ⟨⟨_, by rw [bisEnd I (by assumption)]⟩, rfl⟩

theorem cnt_spec (x : Int) : ∀ {ns : List Int}, ns.Pairwise (· < ·) → (ns.countP (fun v => decide (v ≤ x)) ≤ ns.length) ∧ (∀ i : Nat, i < ns.countP (fun v => decide (v ≤ x)) → ns.getD i 0 ≤ x) ∧ ∀ i : Nat, ns.countP (fun v => decide (v ≤ x)) ≤ i → i < ns.length → x < ns.getD i 0
  | [], _ => ⟨by simp, fun i h => by simp at h, fun i _ h => by simp at h⟩
  | v :: r, hs => by
    obtain ⟨h1, h2⟩ := List.pairwise_cons.mp hs
    obtain ⟨a, b, c⟩ := cnt_spec x h2
    by_cases hv : v ≤ x
    · rw [List.countP_cons_of_pos (by simpa using hv)]
      refine ⟨by simp; exact a, fun i hi => ?_, fun i hi hi2 => ?_⟩
      · cases i with
        | zero => simpa using hv
        | succ i => simpa using b i (by omega)
      · cases i with
        | zero => omega
        | succ i => simpa using c i (by omega) (by simpa using hi2)
    · have hx : x < v := by omega
      have h0 : r.countP (fun v => decide (v ≤ x)) = 0 := by
        rw [List.countP_eq_zero]
        intro y hy
        have := h1 y hy
        simp
        omega
      rw [List.countP_cons_of_neg (by simpa using hv), h0]
      refine ⟨Nat.zero_le _, fun i hi => absurd hi (Nat.not_lt_zero _), fun i hi hi2 => ?_⟩
      cases i with
      | zero => simpa using hx
      | succ i => simpa using c i (by omega) (by simpa using hi2)
theorem cntLe_le {ns : List Int} (hs : ns.Pairwise (· < ·)) (x : Int) : 0 ≤ cntLe ns x ∧ cntLe ns x ≤ ns.length := by
  have := (cnt_spec x hs).1
  unfold cntLe
  omega
theorem has_false {ns : List Int} {x : Int} (hs : ns.Pairwise (· < ·)) (h : ¬ 0 < cntLe ns x) : decide (0 < cntLe ns x) = decide (x ∈ ns) := by
  obtain ⟨a, b, c⟩ := cnt_spec x hs
  have h0 : ns.countP (fun v => decide (v ≤ x)) = 0 := by unfold cntLe at h; omega
  rw [decide_eq_decide]
  refine ⟨fun q => absurd q h, fun q => ?_⟩
  rw [List.countP_eq_zero] at h0
  exact absurd (h0 x q) (by simp)
theorem has_true {ns : List Int} {x : Int} (hs : ns.Pairwise (· < ·)) (h : 0 < cntLe ns x) : decide (ns.getD (cntLe ns x - 1).toNat 0 = x) = decide (x ∈ ns) := by
  obtain ⟨a, b, c⟩ := cnt_spec x hs
  unfold cntLe at h ⊢
  generalize hk : ns.countP (fun v => decide (v ≤ x)) = k at *
  have hk1 : ((k : Nat) : Int) - 1 = ((k - 1 : Nat) : Int) := by omega
  rw [hk1, Int.toNat_natCast, decide_eq_decide]
  have hlt : k - 1 < ns.length := by omega
  constructor
  · intro e
    rw [List.getD_eq_getElem?_getD, List.getElem?_eq_getElem hlt] at e
    rw [← e]
    exact List.getElem_mem hlt
  · intro e
    obtain ⟨i, hi, e⟩ := List.mem_iff_getElem.mp e
    have ei : ns.getD i 0 = x := by rw [List.getD_eq_getElem?_getD, List.getElem?_eq_getElem hi]; exact e
    have hik : i < k := by
      refine Nat.lt_of_not_le fun q => ?_
      have := c i q hi
      omega
    have h1 := sorted_getD hs (show i ≤ k - 1 by omega) hlt
    have h2 := b (k - 1) (by omega)
    omega
set_option maxRecDepth 100000 in
set_option maxHeartbeats 8000000 in
theorem hasC : ∀ (w : World) (news : List (Addr × Obj)) (sh : Addr) (vs : List Value) (ns : List Int) (n : Nat) (x : Int) (tx : Tok), IntsAre vs ns → ns.length ≤ 8 → ns.Pairwise (· < ·) →
    CallC w 2 60 [.ref sh, .int x tx] ((sh, listOf vs.toArray n) :: news) (fun r led' => r = .bool (decide (x ∈ ns)) ∧ led' = (sh, listOf vs.toArray n) :: news) := by
  intro w news sh vs ns n x tx hi hlen hs
  w_top off
  unfold CallC
  k_fill
  intro loose mean mg mb dp un gd cn cs a ccd cl outer A₀ base h₀ L m s Q E B F X N T hk hdp hun hret
  k_with_none
  k_with "call ref" => k_dflt (
    refine' callC_use (bis2 w _ _ _ _ _ _ _ 0 hi hlen hs) ?k1 ?k2 ?k3 ?k4 ?k5 ?kK ?kd ?ku ?_;
    (case k1 => k_asm);
    (case k2 => k_asm);
    (case k3 => k_asm);
    (case k4 => k_asm);
    (case k5 => k_asm);
    (case kK => first | exact rfl | assumption);
    (case kd => ktr_room);
    (case ku => ktr_units);
    intro r9 led9 h9 tk9 F9 N9 hR;
    obtain ⟨⟨t9, e1⟩, e2⟩ := hR;
    subst e1;
    subst e2;
    (have hc9 := cntLe_le hs x);
    (try dsimp only);
    (try k_fold))
  refine wpAny_call ?_
  k_dflt k_enter
  k_steps
  all_goals k_with_none
  · exact hret _ _ _ _ (by assumption) (by assumption) ⟨by first | rw [has_true hs (by assumption)] | (rw [← has_true hs (by assumption)]; rfl), rfl⟩
  · exact hret _ _ _ _ (by assumption) (by assumption) ⟨by rw [has_false hs (by assumption)], rfl⟩

/-- x laid into the sorted ints, behind those that are at most x -/
def insAt (ns : List Int) (x : Int) : List Int := ns.take (cntLe ns x).toNat ++ x :: ns.drop (cntLe ns x).toNat
theorem ints_take {vs : List Value} {ns : List Int} (h : IntsAre vs ns) : ∀ k, IntsAre (vs.take k) (ns.take k) := by
  induction h with
  | nil => intro k; simp; exact .nil
  | cons n t _ ih => intro k; cases k with
    | zero => simp; exact .nil
    | succ k => simp; exact .cons n t (ih k)
theorem ints_drop {vs : List Value} {ns : List Int} (h : IntsAre vs ns) : ∀ k, IntsAre (vs.drop k) (ns.drop k) := by
  induction h with
  | nil => intro k; simp; exact .nil
  | cons n t hr ih => intro k; cases k with
    | zero => simp; exact .cons n t hr
    | succ k => simp; exact ih k
theorem ints_app {vs ws : List Value} {ns ms : List Int} (h : IntsAre vs ns) (g : IntsAre ws ms) : IntsAre (vs ++ ws) (ns ++ ms) := by
  induction h with
  | nil => exact g
  | cons n t _ ih => exact .cons n t ih
theorem ins_ints {vs : List Value} {ns : List Int} {x : Int} {tx : Tok} (h : IntsAre vs ns) (hs : ns.Pairwise (· < ·)) : IntsAre (kl_ins vs.toArray.toList (cntLe ns x) (.int x tx)) (insAt ns x) := by
  obtain ⟨a, b⟩ := cntLe_le hs x
  unfold kl_ins insAt
  have hl : vs.length = ns.length := h.length
  have e : (if cntLe ns x < 0 then (cntLe ns x + ((vs.toArray.toList.length : Nat) : Int)).toNat else min (cntLe ns x).toNat vs.toArray.toList.length) = (cntLe ns x).toNat := by
    rw [if_neg (by omega)]
    simp only [Array.length_toList, List.size_toArray]
    omega
  rw [e]
  exact ints_app (ints_take h _) (.cons x tx (ints_drop h _))
theorem fits9 {ns : List Int} {x : Int} (hlen : ns.length ≤ 8) (hs : ns.Pairwise (· < ·)) : Builtin.List.listFitsIndex (cntLe ns x) = true := by
  obtain ⟨a, b⟩ := cntLe_le hs x
  unfold Builtin.List.listFitsIndex
  simp only [Bool.and_eq_true, decide_eq_true_eq]
  omega
set_option maxRecDepth 100000 in
set_option maxHeartbeats 8000000 in
theorem insC : ∀ (w : World) (news : List (Addr × Obj)) (sh : Addr) (vs : List Value) (ns : List Int) (n : Nat) (x : Int) (tx : Tok), IntsAre vs ns → ns.length ≤ 8 → ns.Pairwise (· < ·) → (∀ p ∈ news, p.1 ≠ sh) →
    CallC w 2 23 [.ref sh, .int x tx] ((sh, listOf vs.toArray n) :: news) (fun r led' => r = .none ∧ ∃ vs' n', IntsAre vs' (insAt ns x) ∧ led' = (sh, listOf vs'.toArray n') :: news) := by
  intro w news sh vs ns n x tx hi hlen hs hoff
  w_top off
  unfold CallC
  k_fill
  intro loose mean mg mb dp un gd cn cs a ccd cl outer A₀ base h₀ L m s Q E B F X N T hk hdp hun hret
  k_with_none
  k_with "call ref" => k_dflt (
    refine' callC_use (bis4 w _ _ _ _ _ _ _ _ hi hlen hs) ?k1 ?k2 ?k3 ?k4 ?k5 ?kK ?kd ?ku ?_;
    (case k1 => k_asm);
    (case k2 => k_asm);
    (case k3 => k_asm);
    (case k4 => k_asm);
    (case k5 => k_asm);
    (case kK => first | exact rfl | assumption);
    (case kd => ktr_room);
    (case ku => ktr_units);
    intro r9 led9 h9 tk9 F9 N9 hR;
    obtain ⟨⟨t9, e1⟩, e2⟩ := hR;
    subst e1;
    subst e2;
    (have hc9 := cntLe_le hs x);
    (try dsimp only);
    (try k_fold))
  k_with "call builtin:list.insert" => k_dflt (
    refine' kl_insert ?k1 ?k2 ?k3 rfl (Upd.head hoff) ?k4 ?_;
    (case k1 => k_asm);
    (case k2 => k_asm);
    (case k3 => exact fits9 hlen hs);
    (case k4 => (have hl9 := hi.length; simp only [Array.length_toList, List.size_toArray, sizeLine_eq]; omega));
    intro h9 F9 N9;
    (try dsimp only);
    (try k_fold))
  refine wpAny_call ?_
  k_dflt k_enter
  k_steps
  all_goals k_with_none
  exact hret _ _ _ _ (by assumption) (by assumption) ⟨rfl, _, _, ins_ints hi hs, rfl⟩

/-- the z-th number -/
def num (z : Nat) : Int := 309 + 256 * ((z / 4 : Nat) : Int) + 16 * ((z / 2 % 2 : Nat) : Int) + ((z % 2 : Nat) : Int)
def nums : List Int := (List.range 8).map num
/-- twice the number of places in which x and y part -/
def dist (x y : Nat) : Int := 2 * (((x + y) % 2 + (x / 2 + y / 2) % 2 + (x / 4 + y / 4) % 2 : Nat) : Int)
def distRow (x : Nat) : List Int := (List.range 8).map (dist x)
/-- the shelf that holds the numbers of the mask's places -/
def shelf (M : Nat) : List Int := ((List.range 8).filter fun z => M.testBit z).map num
theorem shelf_sorted (M : Nat) : (shelf M).Pairwise (· < ·) := by
  have h : ((List.range 8).map num).Pairwise (· < ·) := by decide +kernel
  exact h.sublist (List.Sublist.map _ (List.filter_sublist ..))
theorem shelf_len (M : Nat) : (shelf M).length ≤ 8 := by
  unfold shelf
  rw [List.length_map]
  exact Nat.le_trans (List.length_filter_le ..) (by simp)
theorem num_inj {a b : Nat} (ha : a < 8) (hb : b < 8) (h : num a = num b) : a = b := by
  have : ∀ a < 8, ∀ b < 8, num a = num b → a = b := by decide +kernel
  exact this a ha b hb h
theorem shelf_mem {M z : Nat} (hz : z < 8) : decide (num z ∈ shelf M) = M.testBit z := by
  rw [Bool.eq_iff_iff, decide_eq_true_eq]
  unfold shelf
  rw [List.mem_map]
  constructor
  · rintro ⟨a, ha, e⟩
    rw [List.mem_filter, List.mem_range] at ha
    rw [← num_inj ha.1 hz e]
    exact ha.2
  · intro h
    exact ⟨z, List.mem_filter.mpr ⟨List.mem_range.mpr hz, h⟩, rfl⟩
theorem shelf_ins_all : ∀ M < 256, ∀ z < 8, M.testBit z = false → insAt (shelf M) (num z) = shelf (M ||| 2 ^ z) := by decide +kernel
def betw (x y z : Nat) : Bool := decide (dist x z + dist z y = dist x y)
/-- the mask when the places below k are laid -/
def layM (M x y : Nat) : Nat → Nat
  | 0 => M
  | k + 1 => if betw x y k && !(layM M x y k).testBit k then layM M x y k ||| 2 ^ k else layM M x y k
theorem or_lt {a b : Nat} (ha : a < 256) (hb : b < 256) : a ||| b < 256 := by
  have := Nat.or_lt_two_pow (n := 8) (x := a) (y := b) ha hb
  exact this
theorem layM_lt {M x y : Nat} (hM : M < 256) : ∀ {k}, k ≤ 8 → layM M x y k < 256
  | 0, _ => hM
  | k + 1, h => by
    have ih := layM_lt (x := x) (y := y) hM (show k ≤ 8 by omega)
    unfold layM
    split
    · exact or_lt ih (show 2 ^ k < 2 ^ 8 from Nat.pow_lt_pow_right (by omega) (by omega))
    · exact ih

theorem ints_at {vs : List Value} {ns : List Int} (h : IntsAre vs ns) {i : Nat} (hi : i < ns.length) : ∃ t, vs[i]? = some (.int (ns.getD i 0) t) := by
  obtain ⟨t, e⟩ := h.get i (ns.getD i 0) (by rw [List.getD_eq_getElem?_getD, List.getElem?_eq_getElem hi]; rfl)
  exact ⟨t, e⟩

structure FarIn (news : List (Addr × Obj)) (fa : Addr) (rows : List Addr) : Prop where
  out : ∃ n, (fa, listOf (rows.map Value.ref).toArray n) ∈ news
  len : rows.length = 8
  row : ∀ i < 8, ∃ rvs rn, (rows.getD i 0, listOf (List.toArray rvs) rn) ∈ news ∧ IntsAre rvs (distRow i)
def NumsIn (news : List (Addr × Obj)) (na : Addr) : Prop := ∃ nvs n, (na, listOf (List.toArray nvs) n) ∈ news ∧ IntsAre nvs nums
theorem FarIn.mono {news news' : List (Addr × Obj)} {fa : Addr} {rows : List Addr} (H : FarIn news fa rows) (hs : ∀ p ∈ news, p ∈ news') : FarIn news' fa rows :=
  ⟨H.out.imp fun _ h => hs _ h, H.len, fun i hi => let ⟨a, b, c, d⟩ := H.row i hi; ⟨a, b, hs _ c, d⟩⟩
theorem NumsIn.mono {news news' : List (Addr × Obj)} {na : Addr} (H : NumsIn news na) (hs : ∀ p ∈ news, p ∈ news') : NumsIn news' na := let ⟨a, b, c, d⟩ := H; ⟨a, b, hs _ c, d⟩

section
variable {prog : Program} {w : World} {A : Around} {E : Value → Shared → Prop} {s : Shared} {h₀ : Heap} {L : Addr} {news : List (Addr × Obj)} {value slice : PySem.Expr} {u : Tok} {Q : Value → Shared → Prop}
theorem itemN {l : Addr} {vs : List Value} {n k : Nat} {v : Value} (N : News h₀ L s.heap news) (hm : (l, listOf vs.toArray n) ∈ news) (hk : k < 256) (hx : vs[k]? = some v) (h : Q v s)
    (hs : subscripted slice false (.ref l) (.int (k : Int) u) = operate [.ref l, .int (k : Int) u] (getItem (.ref l) (.int (k : Int) u)) := by with_unfolding_all rfl) :
    wpAny (model prog w) A (subscriptTail value slice (.ref l) (.int (k : Int) u)) Q E s :=
  have hl : s.heap.IsList l vs.toArray := PySem.IsL.isList (n := n) (N _ hm).1
  tail_any hl.typeIs slot_list_getitem.lookup (wpAny_getItem_list hl (by omega) (by omega) (by simpa using hx) h) hs
theorem far_row {fa : Addr} {rows : List Addr} {x : Nat} (N : News h₀ L s.heap news) (H : FarIn news fa rows) (hx : x < 8) (h : Q (.ref (rows.getD x 0)) s)
    (hs : subscripted slice false (.ref fa) (.int (x : Int) u) = operate [.ref fa, .int (x : Int) u] (getItem (.ref fa) (.int (x : Int) u)) := by with_unfolding_all rfl) :
    wpAny (model prog w) A (subscriptTail value slice (.ref fa) (.int (x : Int) u)) Q E s := by
  obtain ⟨n, hm⟩ := H.out
  refine itemN N hm (by omega) ?_ h hs
  have hl : x < rows.length := by rw [H.len]; exact hx
  rw [List.getElem?_map, List.getElem?_eq_getElem hl, List.getD_eq_getElem?_getD, List.getElem?_eq_getElem hl]
  rfl
theorem distRow_at {x z : Nat} (hz : z < 8) : (distRow x).getD z 0 = dist x z := by
  unfold distRow
  rw [List.getD_eq_getElem?_getD, List.getElem?_map, List.getElem?_range hz]
  rfl
theorem nums_at {z : Nat} (hz : z < 8) : nums.getD z 0 = num z := by
  unfold nums
  rw [List.getD_eq_getElem?_getD, List.getElem?_map, List.getElem?_range hz]
  rfl
theorem far_cell {fa : Addr} {rows : List Addr} {x z : Nat} (N : News h₀ L s.heap news) (H : FarIn news fa rows) (hx : x < 8) (hz : z < 8) (h : ∀ t, Q (.int (dist x z) t) s)
    (hs : subscripted slice false (.ref (rows.getD x 0)) (.int (z : Int) u) = operate [.ref (rows.getD x 0), .int (z : Int) u] (getItem (.ref (rows.getD x 0)) (.int (z : Int) u)) := by with_unfolding_all rfl) :
    wpAny (model prog w) A (subscriptTail value slice (.ref (rows.getD x 0)) (.int (z : Int) u)) Q E s := by
  obtain ⟨rvs, rn, hm, hi⟩ := H.row x hx
  obtain ⟨t, e⟩ := ints_at hi (i := z) (by unfold distRow; simpa using hz)
  rw [distRow_at hz] at e
  exact itemN N hm (by omega) e (h t) hs
theorem num_item {na : Addr} {z : Nat} (N : News h₀ L s.heap news) (H : NumsIn news na) (hz : z < 8) (h : ∀ t, Q (.int (num z) t) s)
    (hs : subscripted slice false (.ref na) (.int (z : Int) u) = operate [.ref na, .int (z : Int) u] (getItem (.ref na) (.int (z : Int) u)) := by with_unfolding_all rfl) :
    wpAny (model prog w) A (subscriptTail value slice (.ref na) (.int (z : Int) u)) Q E s := by
  obtain ⟨rvs, rn, hm, hi⟩ := H
  obtain ⟨t, e⟩ := ints_at hi (i := z) (by unfold nums; simpa using hz)
  rw [nums_at hz] at e
  exact itemN N hm (by omega) e (h t) hs
end

theorem lay_yes {M x y k : Nat} (h1 : dist x k + dist k y = dist x y) (h2 : (layM M x y k).testBit k = false) : layM M x y (k + 1) = layM M x y k ||| 2 ^ k := by
  have hb : betw x y k = true := decide_eq_true h1
  show (if betw x y k && !(layM M x y k).testBit k then layM M x y k ||| 2 ^ k else layM M x y k) = _
  rw [hb, h2]; rfl
theorem lay_no1 {M x y k : Nat} (h1 : ¬ dist x k + dist k y = dist x y) : layM M x y (k + 1) = layM M x y k := by
  have hb : betw x y k = false := decide_eq_false h1
  show (if betw x y k && !(layM M x y k).testBit k then layM M x y k ||| 2 ^ k else layM M x y k) = _
  rw [hb]; rfl
theorem lay_no2 {M x y k : Nat} (h2 : (layM M x y k).testBit k = true) : layM M x y (k + 1) = layM M x y k := by
  show (if betw x y k && !(layM M x y k).testBit k then layM M x y k ||| 2 ^ k else layM M x y k) = _
  rw [h2]; simp
theorem subs1 {news own : List (Addr × Obj)} {q : Addr × Obj} : ∀ p ∈ news, p ∈ q :: (news ++ own) := fun _ hp => .tail _ (List.mem_append_left _ hp)
theorem subs2 {news own : List (Addr × Obj)} {q : Addr × Obj} : ∀ p ∈ own, p ∈ q :: (news ++ own) := fun _ hp => .tail _ (List.mem_append_right _ hp)
theorem subs3 {news own : List (Addr × Obj)} {q : Addr × Obj} : ∀ p ∈ q :: news, p ∈ q :: (news ++ own) := fun p hp => (List.mem_cons.mp hp).elim (fun e => e ▸ .head _) fun h => subs1 p h
set_option maxRecDepth 100000 in
set_option maxHeartbeats 8000000 in
theorem layC : ∀ (w : World) (news : List (Addr × Obj)) (sh na fa : Addr) (rows : List Addr) (vs : List Value) (n M x y : Nat) (tx ty : Tok), IntsAre vs (shelf M) → M < 256 → x < 8 → y < 8 → (∀ p ∈ news, p.1 ≠ sh) → NumsIn news na → FarIn news fa rows →
    CallC w 3 67 [.ref sh, .ref na, .ref fa, .int (x : Int) tx, .int (y : Int) ty] ((sh, listOf vs.toArray n) :: news) (fun r led' => r = .none ∧ ∃ vs' n', IntsAre vs' (shelf (layM M x y 8)) ∧ led' = (sh, listOf vs'.toArray n') :: news) := by
  intro w news sh na fa rows vs n M x y tx ty hi hM hx hy hoff hnum hfar
  w_top off
  unfold CallC
  k_fill
  intro loose mean mg mb dp un gd cn cs a ccd cl outer A₀ base h₀ L m s Q E B F X N T hk hdp hun hret
  k_with_none
  k_with "exec For Name Call cons nil" => k_dflt ((rename Fr _ _ _ _ => lF'); (with_unfolding_all refine' For_invVF lF' ?k1 ?k2 ?_; (case k1 => exact rfl); (case k2 => exact rfl); k_whole))
  k_with "pyIter ref" => (refine Stop.out ?_)
  k_with "InvEndN" => (refine Stop.out ?_)
  k_with "call ref" => (refine Stop.out ?_)
  refine wpAny_call ?_
  k_dflt k_enter
  k_steps
  unfold Stop
  rename Fr _ _ _ _ => lF'
  rename News _ _ _ _ => lN'
  rename IsRange _ _ _ _ _ _ _ _ => rgX
  with_unfolding_all refine' kst_range (σ := List Value × Nat × Nat) (n := 8) (fun c => (sh, listOf c.1.toArray c.2.1) :: news) (fun _ => []) (fun c => IntsAre c.1 (shelf c.2.2)) [] (fun pre c => c.2.2 = layM M x y pre.length) (vs, n, M) (by rfl) rgX (by decide) (by rfl) lF' lN' hi (fun p hp => nomatch hp) rfl ?turn ?done
  case turn =>
    clear lF' lN'
    rintro ⟨vs1, n1, M1⟩ pre k t u h9 tk9 own hk1 hlt hoff1 hf1 hp1 F9 N9
    obtain ⟨j, hj⟩ : ∃ j, j = pre.length := ⟨_, rfl⟩
    rw [← hj] at hk1 hlt
    have hk2 : k = (j : Int) := by omega
    subst hk2
    clear hk1
    have hMj : M1 = layM M x y j := by rw [hj]; exact hp1
    clear hp1
    have hM1 : M1 < 256 := by rw [hMj]; exact layM_lt hM (by omega)
    have hoff2 : ∀ p ∈ news ++ own, p.1 ≠ sh := fun p hp => (List.mem_append.mp hp).elim (hoff p) fun hq => hoff1 p hq sh (.head _)
    have hnum2 := hnum.mono (subs1 (own := own) (q := (sh, listOf vs1.toArray n1)))
    have hfar2 := hfar.mono (subs1 (own := own) (q := (sh, listOf vs1.toArray n1)))
    have hs1 := shelf_sorted M1
    have hl1 := shelf_len M1
    dsimp only [List.cons_append] at N9 hf1
    try dsimp only
    try k_fold
    k_with "subscriptTail" => k_dflt (first
      | (refine' far_row ?k1 hfar2 (by assumption) ?_; (case k1 => k_asm))
      | (refine' far_cell ?k1 hfar2 (by assumption) (by assumption) ?_; (case k1 => k_asm); intro t9)
      | (refine' num_item ?k1 hnum2 (by assumption) ?_; (case k1 => k_asm); intro t9))
    k_with "call ref" => k_dflt (first
      | (refine' callC_use (hasC w _ _ _ _ _ _ _ hf1 hl1 hs1) ?k1 ?k2 ?k3 ?k4 ?k5 ?kK ?kd ?ku ?_;
         (case k1 => k_asm);
         (case k2 => k_asm);
         (case k3 => k_asm);
         (case k4 => k_asm);
         (case k5 => k_asm);
         (case kK => first | exact rfl | assumption);
         (case kd => ktr_room);
         (case ku => ktr_units);
         intro r9 led9 h9 tk9 F9 N9 hR;
         obtain ⟨e1, e2⟩ := hR;
         rw [shelf_mem (by assumption)] at e1;
         subst e1;
         subst e2;
         (try dsimp only);
         (try k_fold))
      | (refine' callC_use (insC w _ _ _ _ _ _ _ hf1 hl1 hs1 hoff2) ?k1 ?k2 ?k3 ?k4 ?k5 ?kK ?kd ?ku ?_;
         (case k1 => k_asm);
         (case k2 => k_asm);
         (case k3 => k_asm);
         (case k4 => k_asm);
         (case k5 => k_asm);
         (case kK => first | exact rfl | assumption);
         (case kd => ktr_room);
         (case ku => ktr_units);
         intro r9 led9 h9 tk9 F9 N9 hR;
         obtain ⟨e1, vs2, n2, hf2, e2⟩ := hR;
         subst e1;
         subst e2;
         (try dsimp only);
         (try k_fold)))
    k_steps
    all_goals k_with_none
    all_goals unfold Stop
    · refine' kst_end (vs1, n1, M1) (by assumption) (by assumption) subs3 subs2 rfl hf1 (fun p hp => nomatch hp) ?r ?i
      case r => intro z h1 h2 h3; simp only [if_neg h1, kstB, h3, Bool.false_eq_true, if_false]
      case i =>
        show M1 = layM M x y (pre ++ [(j : Int)]).length
        rw [List.length_append, List.length_cons, List.length_nil, ← hj, lay_no2 (by rw [← hMj]; assumption), hMj]
    · refine' kst_end (vs2, n2, M1 ||| 2 ^ j) (by assumption) (by assumption) subs3 subs2 rfl ?f (fun p hp => nomatch hp) ?r ?i
      case f => rw [← shelf_ins_all M1 hM1 j (by assumption) (by assumption)]; assumption
      case r => intro z h1 h2 h3; simp only [if_neg h1, kstB, h3, Bool.false_eq_true, if_false]
      case i =>
        show M1 ||| 2 ^ j = layM M x y (pre ++ [(j : Int)]).length
        rw [List.length_append, List.length_cons, List.length_nil, ← hj, lay_yes (by assumption) (by rw [← hMj]; assumption), hMj]
    · refine' kst_end (vs1, n1, M1) (by assumption) (by assumption) subs3 subs2 rfl hf1 (fun p hp => nomatch hp) ?r ?i
      case r => intro z h1 h2 h3; simp only [if_neg h1, kstB, h3, Bool.false_eq_true, if_false]
      case i =>
        show M1 = layM M x y (pre ++ [(j : Int)]).length
        rw [List.length_append, List.length_cons, List.length_nil, ← hj, lay_no1 (by assumption), hMj]
  case done =>
    clear lF' lN'
    rintro ⟨vs1, n1, M1⟩ u h9 tk9 hf1 hp1 F9 N9
    dsimp only at hf1 hp1 N9
    try dsimp only
    try k_fold
    k_steps
    refine hret _ _ _ _ (by assumption) (by assumption) ⟨rfl, vs1, n1, ?_, rfl⟩
    have e : layM M x y 8 = M1 := by rw [hp1]; rfl
    rw [e]
    exact hf1

def wing (ds : List Nat) (turn z x : Nat) : Bool := ((z ^^^ x) ||| (ds.getD x 0 ^^^ turn ^^^ x)) == (ds.getD x 0 ^^^ turn ^^^ x)
/-- the mask of the wings' places below k -/
def wingM (bs ds : List Nat) (turn : Nat) : Nat → Nat
  | 0 => 0
  | k + 1 => wingM bs ds turn k ||| (if bs.any (wing ds turn k) then 2 ^ k else 0)
theorem wingM_lt {bs ds : List Nat} {turn : Nat} : ∀ k, wingM bs ds turn k < 2 ^ k
  | 0 => Nat.one_pos
  | k + 1 => by
    have ih := wingM_lt (bs := bs) (ds := ds) (turn := turn) k
    unfold wingM
    refine Nat.or_lt_two_pow (Nat.lt_of_lt_of_le ih (Nat.pow_le_pow_right (by omega) (by omega))) ?_
    split
    · exact Nat.pow_lt_pow_right (by omega) (by omega)
    · exact Nat.two_pow_pos _
theorem xorN {a b : Nat} (ha : a < 16) (hb : b < 16) : Builtin.bitXor (a : Int) (b : Int) = ((a ^^^ b : Nat) : Int) := by
  have h : ∀ a < 16, ∀ b < 16, Builtin.bitXor ((a : Nat) : Int) ((b : Nat) : Int) = ((a ^^^ b : Nat) : Int) := by decide +kernel
  exact h a ha b hb
theorem orN {a b : Nat} (ha : a < 16) (hb : b < 16) : Builtin.bitOr (a : Int) (b : Int) = ((a ||| b : Nat) : Int) := by
  have h : ∀ a < 16, ∀ b < 16, Builtin.bitOr ((a : Nat) : Int) ((b : Nat) : Int) = ((a ||| b : Nat) : Int) := by decide +kernel
  exact h a ha b hb
theorem xor16 {a b : Nat} (ha : a < 16) (hb : b < 16) : a ^^^ b < 16 := Nat.xor_lt_two_pow (n := 4) ha hb
section
variable {prog : Program} {w : World} {A : Around} {E : Value → Shared → Prop} {s : Shared} {t u : Tok} {Q : Value → Shared → Prop}
theorem xor_intN {a b : Nat} (ha : a < 16) (hb : b < 16) (h : Q (.int ((a ^^^ b : Nat) : Int) s.toks) { s with toks := s.toks + 1 }) : wpAny (model prog w) A (binaryOp .BitXor (.int (a : Int) t) (.int (b : Int) u)) Q E s :=
  xor_int (by rw [xorN ha hb]; exact h)
theorem or_intN {a b : Nat} (ha : a < 16) (hb : b < 16) (h : Q (.int ((a ||| b : Nat) : Int) s.toks) { s with toks := s.toks + 1 }) : wpAny (model prog w) A (binaryOp .BitOr (.int (a : Int) t) (.int (b : Int) u)) Q E s :=
  or_int (by rw [orN ha hb]; exact h)
end
theorem ints_kf {vs : List Value} {ns : List Int} (h : IntsAre vs ns) : kf_ints vs = true := by
  induction h with
  | nil => rfl
  | cons n t _ ih => simpa [kf_ints] using ih
theorem ints_any {vs : List Value} {ns : List Int} (h : IntsAre vs ns) (k : Int) : vs.any (isInt k) = decide (k ∈ ns) := by
  rw [any_isInt k h, Bool.eq_iff_iff, decide_eq_true_eq, List.any_eq_true]
  constructor
  · rintro ⟨x, hx, e⟩
    rw [← beq_iff_eq.mp e]
    exact hx
  · exact fun hx => ⟨k, hx, beq_self_eq_true k⟩
theorem shelf_app_all : ∀ z < 8, ∀ M < 2 ^ z, shelf M ++ [num z] = shelf (M ||| 2 ^ z) := by decide +kernel
theorem ints_natlist {vs : List Value} {ds : List Nat} (h : IntsAre vs (ds.map fun d => ((d : Nat) : Int))) {i : Nat} (hi : i < ds.length) : ∃ t, vs[i]? = some (.int ((ds.getD i 0 : Nat) : Int) t) := by
  obtain ⟨t, e⟩ := ints_at h (i := i) (by rw [List.length_map]; exact hi)
  refine ⟨t, ?_⟩
  rw [e, List.getD_eq_getElem?_getD, List.getD_eq_getElem?_getD, List.getElem?_map, List.getElem?_eq_getElem hi]
  rfl
theorem ints0 : IntsAre [] (shelf 0) := by
  have e : shelf 0 = [] := by decide +kernel
  rw [e]
  exact .nil
theorem con2 {z a b : Str} (h : [a, b].contains z = false) : z ≠ a ∧ z ≠ b := ⟨fun e => by subst e; simp at h, fun e => by subst e; simp at h⟩
theorem con1 {z a : Str} (h : z ≠ a) : [a].contains z = false := by simpa using h
theorem any_one {f : Int → Bool} {pre : List Int} {x : Int} : (pre ++ [x]).any f = (pre.any f || f x) := by
  rw [List.any_append, List.any_cons, List.any_nil, Bool.or_false]
theorem bit_low {M j : Nat} (h : M < 2 ^ j) : M.testBit j = false := Nat.testBit_lt_two_pow h
theorem wing_seen {M1 M2 j : Nat} {b : Bool} (h : M2 = M1 ||| (if b then 2 ^ j else 0)) (hM : M1 < 2 ^ j) (ht : M2.testBit j = true) : M2 = M1 ||| (if (b || true) then 2 ^ j else 0) := by
  cases b with
  | true => exact h
  | false =>
    have e : M2 = M1 := by rw [h]; exact Nat.or_zero _
    rw [e, bit_low hM] at ht
    cases ht
theorem wing_new {M1 M2 j : Nat} {b : Bool} (h : M2 = M1 ||| (if b then 2 ^ j else 0)) (ht : M2.testBit j = false) : M2 = M1 := by
  cases b with
  | false => rw [h]; exact Nat.or_zero _
  | true =>
    rw [h, Nat.testBit_or] at ht
    simp [Nat.testBit_two_pow_self] at ht
theorem wing_is {ds : List Nat} {turn z x : Nat} (h : (((z ^^^ x ||| (ds.getD x 0 ^^^ turn ^^^ x) : Nat)) : Int) = ((ds.getD x 0 ^^^ turn ^^^ x : Nat) : Int)) : wing ds turn z x = true := by
  unfold wing
  rw [beq_iff_eq]
  omega
theorem wing_isnt {ds : List Nat} {turn z x : Nat} (h : (((z ^^^ x ||| (ds.getD x 0 ^^^ turn ^^^ x) : Nat)) : Int) ≠ ((ds.getD x 0 ^^^ turn ^^^ x : Nat) : Int)) : wing ds turn z x = false := by
  unfold wing
  rw [beq_eq_false_iff_ne]
  omega
theorem subs4 {news own : List (Addr × Obj)} {q q' : Addr × Obj} (e : q = q') : ∀ p ∈ q :: news, p ∈ q' :: (news ++ own) := by subst e; exact subs3
set_option maxRecDepth 100000 in
set_option maxHeartbeats 8000000 in
theorem wngC : ∀ (w : World) (news : List (Addr × Obj)) (ba da na : Addr) (bvs dvs : List Value) (nb nd : Nat) (bs ds : List Nat) (turn : Nat) (tt : Tok), (ba, listOf bvs.toArray nb) ∈ news → IntsAre bvs (bs.map fun b => ((b : Nat) : Int)) → (da, listOf dvs.toArray nd) ∈ news → IntsAre dvs (ds.map fun d => ((d : Nat) : Int)) → ds.length = 8 → (∀ x ∈ bs, x < 8 ∧ ds.getD x 0 < 8) → turn < 8 → NumsIn news na →
    CallC w 1 74 [.ref ba, .ref da, .ref na, .int (turn : Int) tt] news (fun r led' => ∃ wa vs n, r = .ref wa ∧ led' = (wa, listOf (List.toArray vs) n) :: news ∧ (∀ p ∈ news, p.1 ≠ wa) ∧ IntsAre vs (shelf (wingM bs ds turn 8))) := by
  intro w news ba da na bvs dvs nb nd bs ds turn tt hb hbi hdm hdi hdl hbx htn hnum
  w_top off
  unfold CallC
  k_fill
  intro loose mean mg mb dp un gd cn cs a ccd cl outer A₀ base h₀ L m s Q E B F X N T hk hdp hun hret
  k_with_none
  k_with "exec For Name Call cons nil" => k_dflt ((rename Fr _ _ _ _ => lF'); (with_unfolding_all refine' For_invVF lF' ?k1 ?k2 ?_; (case k1 => exact rfl); (case k2 => exact rfl); k_whole))
  k_with "exec For Name Name cons nil" => k_dflt ((rename Fr _ _ _ _ => lF'); (with_unfolding_all refine' For_invVF lF' ?k1 ?k2 ?_; (case k1 => exact rfl); (case k2 => exact rfl); k_whole))
  k_with "pyIter ref" => (refine Stop.out ?_)
  k_with "InvEndN" => (refine Stop.out ?_)
  k_with "call ref" => (refine Stop.out ?_)
  refine wpAny_call ?_
  k_dflt k_enter
  k_steps
  unfold Stop
  rename_i wa _ hl1 _ _ _ _ _ _ _ _ rgX lF' lN' _
  with_unfolding_all refine' kst_range (σ := List Value × Nat × Nat) (n := 8) (fun c => (wa, listOf c.1.toArray c.2.1) :: news) (fun _ => []) (fun c => IntsAre c.1 (shelf c.2.2)) [Str.ofString "x", Str.ofString "free"] (fun pre c => c.2.2 = wingM bs ds turn pre.length) ([], 0, 0) (by rfl) rgX (by decide) (by rfl) lF' lN' ints0 (fun p hp => nomatch hp) rfl ?turn ?done
  case turn =>
    clear lF' lN'
    rintro ⟨vs1, n1, M1⟩ pre k t u h9 tk9 own hk1 hlt hoff1 hf1 hp1 F9 N9
    obtain ⟨j, hj⟩ : ∃ j, j = pre.length := ⟨_, rfl⟩
    rw [← hj] at hk1 hlt
    have hk2 : k = (j : Int) := by omega
    subst hk2
    clear hk1
    have hMj : M1 = wingM bs ds turn j := by rw [hj]; exact hp1
    clear hp1
    have hM1 : M1 < 2 ^ j := by rw [hMj]; exact wingM_lt j
    have hoff2 : ∀ p ∈ news ++ own, p.1 ≠ wa := fun p hp => (List.mem_append.mp hp).elim (fun hq => Nat.ne_of_lt (hl1 p hq)) fun hq => hoff1 p hq wa (.head _)
    dsimp only [List.cons_append] at N9 hf1
    try dsimp only
    try k_fold
    k_steps
    unfold Stop
    rename Fr _ _ _ _ => lF'
    rename News _ _ _ _ => lN'
    with_unfolding_all refine' kst_listL (σ := List Value × Nat × Nat) (l := ba) (vs := bvs) (nn := nb) (fun c => (wa, listOf c.1.toArray c.2.1) :: (news ++ own)) (fun _ => []) (fun c => IntsAre c.1 (shelf c.2.2)) [Str.ofString "free"] (fun pre c => c.2.2 = M1 ||| (if pre.any (fun v => wing ds turn j v.toNat) then 2 ^ j else 0)) (vs1, n1, M1) (by rfl) (fun c => subs1 _ hb) hbi lF' lN' hf1 (fun p hp => nomatch hp) (Nat.or_zero _).symm ?turn2 ?done2
    case turn2 =>
      clear lF' lN'
      rintro ⟨vs2, n2, M2⟩ pre2 post2 nv t2 u2 h8 tk8 own2 he2 hmem hoff8 hf2 hp2 F8 N8
      obtain ⟨xn, hxn, rfl⟩ := List.mem_map.mp hmem
      obtain ⟨hx8, hd8⟩ := hbx xn hxn
      obtain ⟨td, hdx⟩ := ints_natlist hdi (i := xn) (by omega)
      have hda : (da, listOf dvs.toArray nd) ∈ (wa, listOf vs2.toArray n2) :: ((news ++ own) ++ own2) := .tail _ (List.mem_append_left _ (List.mem_append_left _ hdm))
      have hnum2 : NumsIn ((wa, listOf vs2.toArray n2) :: ((news ++ own) ++ own2)) na := hnum.mono fun p hp => .tail _ (List.mem_append_left _ (List.mem_append_left _ hp))
      have hoff3 : ∀ p ∈ (news ++ own) ++ own2, p.1 ≠ wa := fun p hp => (List.mem_append.mp hp).elim (hoff2 p) fun hq => hoff8 p hq wa (.head _)
      dsimp only [List.cons_append] at N8 hf2 hp2
      try dsimp only
      try k_fold
      k_with "subscriptTail" => k_dflt (first
        | (refine' itemN ?k1 hda (by omega) hdx ?_; (case k1 => k_asm))
        | (refine' num_item ?k1 hnum2 (by assumption) ?_; (case k1 => k_asm); intro t9))
      k_with "binaryOp BitXor int int" => k_dflt (refine' xor_intN ?a ?b ?_; (case a => first | omega | (refine xor16 ?_ ?_ <;> omega)); (case b => first | omega | (refine xor16 ?_ ?_ <;> omega)))
      k_with "binaryOp BitOr int int" => k_dflt (refine' or_intN ?a ?b ?_; (case a => first | omega | (refine xor16 ?_ ?_ <;> omega)); (case b => first | omega | (refine xor16 ?_ ?_ <;> omega) | (refine xor16 (xor16 ?_ ?_) ?_ <;> omega)))
      k_with "compareOp NotIn int ref" => k_dflt (refine' kf_notin (b := !M2.testBit j) (its := vs2.toArray) (n := n2) ?k1 (.head _) (ints_kf hf2) ?e ?_; (case k1 => k_asm); (case e => (show (!vs2.any (isInt (num j))) = _); rw [ints_any hf2, shelf_mem hlt]))
      k_with "call builtin:list.append" => k_dflt (refine' append_K ?k1 ?k2 (Upd.head hoff3) ?_ ?z; (case k1 => k_asm); (case k2 => k_asm); (case z => (have hq := hf2.length; have hq2 := shelf_len M2; rw [List.size_toArray, sizeLine_eq]; omega)); intro h7 F7 N7; rw [List.push_toArray] at N7; (try dsimp only); (try k_fold))
      k_steps
      all_goals unfold Stop
      · refine' kst_end (vs2, n2, M2) (by assumption) (by assumption) subs3 subs2 rfl hf2 (fun p hp => nomatch hp) ?r ?i
        case r => intro z h1 h2 h3; simp only [kstB, h3, if_neg (ne1 h3), if_neg h1, Bool.false_eq_true, if_false]
        case i =>
          show M2 = M1 ||| (if (pre2 ++ [((xn : Nat) : Int)]).any (fun v => wing ds turn j v.toNat) then 2 ^ j else 0)
          rw [any_one, show wing ds turn j (((xn : Nat) : Int).toNat) = true from wing_is (by assumption)]
          exact wing_seen hp2 hM1 (by assumption)
      · have e2 : M2 = M1 := wing_new hp2 (by assumption)
        refine' kst_end (vs2 ++ [.int (num j) _], n2 + 1, M2 ||| 2 ^ j) (by assumption) (by assumption) subs3 subs2 rfl ?f (fun p hp => nomatch hp) ?r ?i
        case f => rw [← shelf_app_all j hlt M2 (by rw [e2]; exact hM1)]; exact ints_app hf2 (.cons _ _ .nil)
        case r => intro z h1 h2 h3; simp only [kstB, h3, if_neg (ne1 h3), if_neg h1, Bool.false_eq_true, if_false]
        case i =>
          show M2 ||| 2 ^ j = M1 ||| (if (pre2 ++ [((xn : Nat) : Int)]).any (fun v => wing ds turn j v.toNat) then 2 ^ j else 0)
          rw [any_one, show wing ds turn j (((xn : Nat) : Int).toNat) = true from wing_is (by assumption), Bool.or_true, if_pos rfl, e2]
      · refine' kst_end (vs2, n2, M2) (by assumption) (by assumption) subs3 subs2 rfl hf2 (fun p hp => nomatch hp) ?r ?i
        case r => intro z h1 h2 h3; simp only [kstB, h3, if_neg (ne1 h3), if_neg h1, Bool.false_eq_true, if_false]
        case i =>
          show M2 = M1 ||| (if (pre2 ++ [((xn : Nat) : Int)]).any (fun v => wing ds turn j v.toNat) then 2 ^ j else 0)
          rw [any_one, show wing ds turn j (((xn : Nat) : Int).toNat) = false from wing_isnt (by assumption), Bool.or_false]
          exact hp2
    case done2 =>
      clear lF' lN'
      rintro ⟨vs2, n2, M2⟩ u2 h8 tk8 hf2 hp2 F8 N8
      dsimp only at hf2 hp2 N8
      try dsimp only
      try k_fold
      k_steps
      unfold Stop
      refine' kst_end (vs2, n2, M2) (by assumption) (by assumption) subs3 subs2 rfl hf2 (fun p hp => nomatch hp) ?r ?i
      case r =>
        intro z h1 h2 h3
        obtain ⟨h4, h5⟩ := con2 h3
        simp only [kstB, h3, con1 h5, if_neg h4, if_neg h1, Bool.false_eq_true, if_false]
      case i =>
        show M2 = wingM bs ds turn (pre ++ [(j : Int)]).length
        rw [List.length_append, List.length_cons, List.length_nil, ← hj, hp2, List.any_map, hMj]
        rfl
  case done =>
    clear lF' lN'
    rintro ⟨vs1, n1, M1⟩ u h9 tk9 hf1 hp1 F9 N9
    dsimp only at hf1 hp1 N9
    try dsimp only
    try k_fold
    k_steps
    have e : M1 = wingM bs ds turn 8 := by rw [hp1]; rfl
    subst e
    exact hret _ _ _ _ (by assumption) (by assumption) ⟨wa, vs1, n1, rfl, rfl, fun p hp => Nat.ne_of_lt (hl1 p hp), hf1⟩

def wordB (z : Nat) : Array UInt8 := #[66 + (z / 4).toUInt8, 68 + (z / 2 % 2).toUInt8, 70 + (z % 2).toUInt8]
/-- what the loop makes of n and the bytes made so far, in at most k turns -/
def apF : Nat → Int → List UInt8 → List UInt8
  | 0, _, v => v
  | k + 1, n, v => if n = 0 then v else apF k (n / 16) ((65 + (n % 16).toNat.toUInt8) :: v)
def ApInv (z : Nat) (n : Int) (v : Array UInt8) : Prop := ∃ k : Nat, k ≤ 3 ∧ 0 ≤ n ∧ n < 16 ^ k ∧ v.size + k ≤ 3 ∧ apF k n v.toList = (wordB z).toList
theorem ap_start {z : Nat} (hz : z < 8) : ApInv z (if -(num z) < 0 then - -(num z) else -(num z)) #[] := by
  have h : ∀ z < 8, (if -(num z) < 0 then - -(num z) else -(num z)) = num z ∧ 0 ≤ num z ∧ num z < 4096 ∧ apF 3 (num z) [] = (wordB z).toList := by decide +kernel
  obtain ⟨a, b, c, d⟩ := h z hz
  rw [a]
  exact ⟨3, by omega, b, c, by simp, d⟩
theorem ap_end {z : Nat} {v : Array UInt8} (h : ApInv z 0 v) : v = wordB z := by
  obtain ⟨k, _, _, _, _, e⟩ := h
  apply Array.toList_inj.mp
  rw [← e]
  cases k with
  | zero => rfl
  | succ k => simp [apF]
theorem ap_step {z : Nat} {n : Int} {v : Array UInt8} (h : ApInv z n v) (hn : n ≠ 0) : ApInv z (n.fdiv 16) (#[65 + (n.fmod 16).toNat.toUInt8] ++ v) ∧ 0 ≤ n.fmod 16 ∧ n.fmod 16 < 16 ∧ 0 ≤ n.fdiv 16 ∧ n.fdiv 16 < n ∧ v.size ≤ 3 := by
  obtain ⟨k, hk, h0, h1, hs, e⟩ := h
  have e1 : n.fdiv 16 = n / 16 := Int.fdiv_eq_ediv_of_nonneg n (by omega)
  have e2 : n.fmod 16 = n % 16 := Int.fmod_eq_emod_of_nonneg n (by omega)
  rw [e1, e2]
  cases k with
  | zero => simp at h1; omega
  | succ k =>
    refine ⟨⟨k, by omega, by omega, ?_, by simp; omega, ?_⟩, by omega, by omega, by omega, by omega, by omega⟩
    · rw [Int.pow_succ] at h1; omega
    · rw [← e]
      show _ = if n = 0 then _ else _
      rw [if_neg hn]
      simp
theorem ap_cut : ∀ m < 16, KBy.picked #[65, 66, 67, 68, 69, 70, 71, 72, 73, 74, 75, 76, 77, 78, 79, 80] (some ((m : Nat) : Int)) (some ((m : Nat) + 1 : Int)) = #[65 + m.toUInt8] := by decide +kernel
theorem ap_cut' {m : Int} (h0 : 0 ≤ m) (h1 : m < 16) : KBy.picked #[65, 66, 67, 68, 69, 70, 71, 72, 73, 74, 75, 76, 77, 78, 79, 80] (some m) (some (m + 1)) = #[65 + m.toNat.toUInt8] := by
  have h := ap_cut m.toNat (by omega)
  rw [show ((m.toNat : Nat) : Int) = m by omega] at h
  exact h
set_option maxRecDepth 100000 in
set_option maxHeartbeats 8000000 in
theorem apC : ∀ (w : World) (news : List (Addr × Obj)) (z : Nat) (t0 : Tok), z < 8 →
    CallC w 1 39 [.int (-(num z)) t0] news (fun r led' => (∃ t, r = .bytes (wordB z) t) ∧ led' = news) := by
  intro w news z t0 hz
  w_top off
  unfold CallC
  k_fill
  intro loose mean mg mb dp un gd cn cs a ccd cl outer A₀ base h₀ L m s Q E B F X N T hk hdp hun hret
  k_with_none
  k_with "exec While Name" => (refine Stop.out ?_)
  k_with "KswEnd" => (refine Stop.out ?_)
  refine wpAny_call ?_
  k_dflt k_enter
  k_steps
  unfold Stop
  rename Fr _ _ _ _ => lF'
  rename News _ _ _ _ => lN'
  with_unfolding_all refine' ksw_while (fun _ => news) (fun c : Int × Tok × Array UInt8 × Tok => [(Str.ofString "num", Value.int c.1 c.2.1), (Str.ofString "val", Value.bytes c.2.2.1 c.2.2.2)]) (fun _ => True) [Str.ofString "mod"] (fun c => ApInv z c.1 c.2.2.1) (fun c => c.1.toNat) (_, _, #[], _) lF' lN' trivial ?kk ?kp ?_
  case kk => kst_all
  case kp => exact ap_start hz
  clear lF' lN'
  rintro ⟨n, t1, v, t2⟩ u h tk _ I F' N'
  try dsimp only at I
  try dsimp only at F'
  try dsimp only
  try k_fold
  k_with "subscriptTail" => k_dflt ((have st := ap_step I (by assumption)); (rename Fr _ _ _ _ => lF'); (rename News _ _ _ _ => lN'); (refine' KBc.slice_K (s := ⟨_, _, _, _, _⟩) lF' lN' rfl ?l ?u ?z ?_; (case l => constructor); (case u => constructor); (case z => decide)); (intro h9 t9 tk9 F9 N9 _); (rw [ap_cut' st.2.1 st.2.2.1]); (try dsimp only); (try k_fold))
  k_with "binaryOp Add bytes bytes" => k_dflt ((refine' KBy.add_bytes ?z ?_; (case z => (have q := st.2.2.2.2.2; (simp only [List.size_toArray, List.length_cons, List.length_nil]; omega)))); (intro t8 tk8); (try dsimp only); (try k_fold))
  k_steps
  all_goals k_with_none
  · unfold Stop
    refine' ksw_end (_, _, _, _) (by assumption) (by assumption) (fun p hp => .tail _ hp) trivial (by kst_all) ?s77 ?i77 ?m77
    case s77 => intro y h2 h3; obtain ⟨a1, a2⟩ := ne2 h2; have a3 := ne1 h3; simp only [kstB, if_neg a1, if_neg a2, if_neg a3, h3, Bool.false_eq_true, if_false]
    case i77 => exact st.1
    case m77 => have q1 := st.2.2.2.1; have q2 := st.2.2.2.2.1; dsimp only; omega
  · have e : n = 0 := by first | assumption | omega
    subst e
    have e := ap_end I
    subst e
    exact hret _ _ _ _ (by assumption) (by assumption) ⟨⟨_, rfl⟩, rfl⟩

def ltr (c : Nat) : Str := Str.mk #[c]
def wl (z p : Nat) : Nat := if p = 0 then 66 + z / 4 else if p = 1 then 68 + z / 2 % 2 else 70 + z % 2
/-- the z-th word's letters from place p to place q -/
def sub (z p q : Nat) : Str := Str.mk #[wl z 0, wl z 1, wl z 2].toList.toArray |> fun s => Str.mk (((s.cps.toList.drop p).take (q - p)).toArray)
theorem F1 : ∀ z < 8, ∀ p < 3, Txt.slice (sub z 0 3) (some ((p : Nat) : Int)) none = sub z p 3 := by decide +kernel
theorem F2 : ∀ z < 8, ∀ p < 3, Txt.item (sub z 0 3) ((p : Nat) : Int) = ltr (wl z p) := by decide +kernel
theorem F3 : ∀ z < 8, ∀ p < 4, ∀ q < 4, (sub z p q).length = q - p := by decide +kernel
theorem F4 : ∀ z < 8, ∀ p < 3, ∀ q < 3 - p, Txt.slice (sub z p 3) none (some (-((q : Nat) : Int))) = if q = 0 then sub z p p else sub z p (3 - q) := by decide +kernel
theorem F4' : ∀ z < 8, ∀ p < 3, Txt.slice (sub z p 3) none none = sub z p 3 := by decide +kernel
theorem F5 : ∀ z < 8, ∀ p < 3, ∀ q < 3 - p, Txt.item (sub z p 3) (-((q : Nat) : Int) - 1) = ltr (wl z (2 - q)) := by decide +kernel
theorem F6 : ∀ z < 8, ∀ p < 3, ∀ q < 4, ∀ j < q - p, Txt.item (sub z p q) ((j : Nat) : Int) = ltr (wl z (p + j)) := by decide +kernel
theorem wl_in : ∀ z < 8, ∀ p, 66 ≤ wl z p ∧ wl z p < 72 := by
  intro z hz p
  unfold wl
  split
  · omega
  · split <;> omega
theorem ltr_lower6 : ∀ i < 6, ∀ j < 6, ((Txt.lower (ltr (66 + i))).cps.toList == (Txt.lower (ltr (66 + j))).cps.toList) = decide (i = j) := by decide +kernel
theorem ltr_lower {c d : Nat} (hc0 : 66 ≤ c) (hc1 : c < 72) (hd0 : 66 ≤ d) (hd1 : d < 72) : ((Txt.lower (ltr c)).cps.toList == (Txt.lower (ltr d)).cps.toList) = decide (c = d) := by
  have h := ltr_lower6 (c - 66) (by omega) (d - 66) (by omega)
  rw [show 66 + (c - 66) = c by omega, show 66 + (d - 66) = d by omega] at h
  rw [h, decide_eq_decide]
  omega
theorem ltr_eq {c d : Nat} : ((ltr c).cps.toList == (ltr d).cps.toList) = decide (c = d) := by
  unfold ltr
  rw [Bool.eq_iff_iff]
  simp
theorem ltr_yes {c d : Nat} (h : (ltr c == ltr d) = true) : c = d := by
  have h := beq_iff_eq.mp h
  unfold ltr at h
  injection h with h
  simpa using h
theorem ltr_no {c d : Nat} (h : (ltr c == ltr d) = false) : c ≠ d := fun e => by
  subst e
  simp at h
theorem lower_yes {c d : Nat} (hc0 : 66 ≤ c) (hc1 : c < 72) (hd0 : 66 ≤ d) (hd1 : d < 72) (h : (Txt.lower (ltr c) == Txt.lower (ltr d)) = true) : c = d := by
  have h := beq_iff_eq.mp h
  have e := ltr_lower hc0 hc1 hd0 hd1
  rw [h, beq_self_eq_true] at e
  exact of_decide_eq_true e.symm
theorem ltr_len {c : Nat} : (ltr c).length = 1 := rfl
theorem sub_yes {c d : Nat} {t : Tok} (h : c = d) : ∃ t', Value.int 0 t = .int (if c = d then 0 else 2) t' := ⟨t, by rw [if_pos h]⟩
theorem sub_no {c d : Nat} {t : Tok} (h : c ≠ d) : ∃ t', Value.int 2 t = .int (if c = d then 0 else 2) t' := ⟨t, by rw [if_neg h]⟩
set_option maxRecDepth 100000 in
set_option maxHeartbeats 8000000 in
theorem subC : ∀ (w : World) (news : List (Addr × Obj)) (c d : Nat) (tc td : Tok), 66 ≤ c → c < 72 → 66 ≤ d → d < 72 →
    CallC w 1 46 [.str (ltr c) tc, .str (ltr d) td] news (fun r led' => (∃ t, r = .int (if c = d then 0 else 2) t) ∧ led' = news) := by
  intro w news c d tc td hc0 hc1 hd0 hd1
  w_top off
  unfold CallC
  k_fill
  intro loose mean mg mb dp un gd cn cs a ccd cl outer A₀ base h₀ L m s Q E B F X N T hk hdp hun hret
  k_with_none
  k_with "call builtin:str.lower" => k_dflt (dsimp only; (refine' SCL.lower (x := ltr _) ?zz ?_; (case zz => rw [ltr_len]; decide)); intro _)
  refine wpAny_call ?_
  k_dflt k_enter
  k_steps
  all_goals k_with_none
  · exact hret _ _ _ _ (by assumption) (by assumption) ⟨sub_yes (ltr_yes (by assumption)), rfl⟩
  · exact absurd (lower_yes hc0 hc1 hd0 hd1 (by assumption)) (ltr_no (by assumption))
  · exact hret _ _ _ _ (by assumption) (by assumption) ⟨sub_no (ltr_no (by assumption)), rfl⟩

def preF (x y : Nat) : Nat := if x / 4 ≠ y / 4 then 0 else if x / 2 % 2 ≠ y / 2 % 2 then 1 else 2
def sufF (x y : Nat) : Nat := if x % 2 ≠ y % 2 then 0 else if x / 2 % 2 ≠ y / 2 % 2 then 1 else 2
theorem pre_le : ∀ x y, preF x y ≤ 2 := by
  intro x y
  unfold preF
  split
  · omega
  · split <;> omega
theorem pre_is : ∀ x < 8, ∀ y < 8, ∀ p < 3, x ≠ y → p ≤ preF x y → decide (wl x p = wl y p) = decide (p < preF x y) := by decide +kernel
theorem suf_lt : ∀ x < 8, ∀ y < 8, x ≠ y → preF x y + sufF x y < 3 := by decide +kernel
theorem suf_is : ∀ x < 8, ∀ y < 8, ∀ q < 3, x ≠ y → q ≤ sufF x y → decide (wl x (2 - q) = wl y (2 - q)) = decide (q < sufF x y) := by decide +kernel
theorem word_ne : ∀ x < 8, ∀ y < 8, x ≠ y → sub x 0 3 ≠ sub y 0 3 := by decide +kernel
theorem fits3 {p : Nat} (h : p < 3) : fitsSsize (p : Int) = true := by
  have : ∀ p < 3, fitsSsize ((p : Nat) : Int) = true := by decide +kernel
  exact this p h
theorem fits3n {q : Nat} (h : q < 3) : fitsSsize (-(q : Int) - 1) = true := by
  have : ∀ p < 3, fitsSsize (-((p : Nat) : Int) - 1) = true := by decide +kernel
  exact this q h
theorem truthy_zero {prog : Program} {w : World} {A : Around} {E : Value → Shared → Prop} {s : Shared} {n : Int} {t : Tok} {Q : Bool → Shared → Prop} (h : n = 0) (hQ : Q false s) : wpAny (model prog w) A (truthy (.int n t)) Q E s := by
  subst h
  exact P.truthy_int hQ
theorem truthy_one {prog : Program} {w : World} {A : Around} {E : Value → Shared → Prop} {s : Shared} {n : Int} {t : Tok} {Q : Bool → Shared → Prop} (h : n ≠ 0) (hQ : Q true s) : wpAny (model prog w) A (truthy (.int n t)) Q E s := by
  refine P.truthy_int ?_
  have e : (n != 0) = true := by simpa using h
  rw [e]
  exact hQ
theorem str_true {z p q : Nat} (hz : z < 8) (hp : p < 4) (hq : q < 4) (h : p < q) : (((sub z p q).length : Int) != 0) = true := by
  rw [F3 z hz p hp q hq, bne_iff_ne]
  omega
section
variable {prog : Program} {w : World} {A : Around} {E : Value → Shared → Prop} {s : Shared}
/-- «n or None» -/
def orNone (n : Int) (t : Tok) : Value := if n = 0 then .none else .int n t
theorem or_merge {env : Env} {e : PySem.Expr} {k : Nat} {p1 p2 : Pos} {Q : Value → Shared → Prop}
    (h : wpAny (model prog w) A (eval e env) (fun v s₁ => ∃ n t, v = .int n t ∧ Q (orNone n t) s₁) E s) : wpAny (model prog w) A (eval (.BoolOp .Or [e, .Constant .none k p1] p2) env) Q E s := by
  show wpAny (model prog w) A (boolOp p2 .Or [eval e env, eval (.Constant .none k p1) env]) Q E s
  unfold boolOp
  refine wpAny_bind (wpAny_mono h (fun v s₁ hv => ?_) fun _ _ x => x)
  obtain ⟨n, t, rfl, hQ⟩ := hv
  refine wpAny_bind (wpAny_standAt (wpAny_bind (wpAny_holding (P.truthy_int ?_))))
  unfold orNone at hQ
  by_cases hn : n = 0
  · subst hn
    rw [if_pos rfl] at hQ
    exact wpAny_pure hQ
  · rw [if_neg hn] at hQ
    have e : (n != 0) = true := by simpa using hn
    rw [e]
    exact wpAny_pure hQ
theorem slice_or {value slice : PySem.Expr} {z p q : Nat} {t u : Tok} {h₀ : Heap} {L : Addr} {m : Str → Option Value} {news : List (Addr × Obj)} {Q : Value → Shared → Prop} (hz : z < 8) (hp : p < 3) (hq : q < 3 - p) (hF : Fr h₀ L s.heap m) (hN : News h₀ L s.heap news)
    (h : ∀ h' t' k, Fr h₀ L h' m → News h₀ L h' news → Q (.str (sub z p (3 - q)) t') { s with heap := h', toks := k })
    (hs : subscripted slice false (.str (sub z p 3) t) (.ref s.heap.objs.size) = operate [.ref s.heap.objs.size, .str (sub z p 3) t] (getItem (.str (sub z p 3) t) (.ref s.heap.objs.size)) := by with_unfolding_all rfl)
    (ht : ∀ r, letTemporaryGo value (.str (sub z p 3) t) r = pure () := by intro _; with_unfolding_all rfl) :
    wpAny (model prog w) A (subscriptTail value slice (.str (sub z p 3) t) (.ref s.heap.objs.size)) Q E { s with heap := s.heap.push { cls := .type "slice", data := .fields #[.none, orNone (-(q : Int)) u, .none] } } := by
  have hl : (sub z p 3).length ≤ sizeLine := by rw [F3 z hz p (by omega) 3 (by omega), sizeLine_eq]; omega
  by_cases hq0 : q = 0
  · subst hq0
    refine slice_strN_nn (s := s) hF hN (fun h' t' k F' N' => ?_) hs ht hl
    rw [F4' z hz p hp]
    exact h h' t' k F' N'
  · have e : orNone (-(q : Int)) u = .int (-(q : Int)) u := by
      unfold orNone
      rw [if_neg (by omega)]
    rw [e]
    refine slice_strN_ns (s := s) hF hN (fun h' t' k F' N' => ?_) hs ht hl
    rw [F4 z hz p hp q hq, if_neg hq0]
    exact h h' t' k F' N'
theorem kset {v : Value} : ∀ {l : List Value} {k : Nat}, k < l.length → ki_setL l k v = some (l.set k v)
  | [], _, h => absurd h (Nat.not_lt_zero _)
  | x :: r, 0, _ => rfl
  | x :: r, k + 1, h => by
    unfold ki_setL
    rw [kset (Nat.lt_of_succ_lt_succ h)]
    rfl
theorem ints_set {x : Int} {t : Tok} {vs : List Value} {ns : List Int} (h : IntsAre vs ns) : ∀ k, IntsAre (vs.set k (.int x t)) (ns.set k x) := by
  induction h with
  | nil => intro k; exact .nil
  | cons n u hr ih =>
    intro k
    cases k with
    | zero => exact .cons x t hr
    | succ k => exact .cons n u (ih k)
theorem rng_cons (a c : Int) (n : Nat) : rangeInts a c (n + 1) = a :: rangeInts (a + c) c n := by
  unfold rangeInts
  rw [List.range_succ_eq_map, List.map_cons, List.map_map]
  congr 1
  · simp
  · apply List.map_congr_left
    intro i _
    simp only [Function.comp]
    rw [Int.natCast_succ, Int.add_mul]
    omega
theorem rng_ints : ∀ (vs : List Value) (a c : Int) (n : Nat), vs.length = n → (∀ (j : Nat) (v : Value), vs[j]? = some v → ∃ t, v = .int (a + j * c) t) → IntsAre vs (rangeInts a c n)
  | [], a, c, n, e, _ => by
    subst e
    exact IntsAre.nil
  | v :: r, a, c, n, e, h => by
    subst e
    rw [List.length_cons, rng_cons]
    obtain ⟨t, ht⟩ := h 0 v rfl
    have hv : v = .int a t := by rw [ht]; simp
    subst hv
    refine IntsAre.cons _ _ (rng_ints r (a + c) c r.length rfl fun j v hj => ?_)
    obtain ⟨t', ht'⟩ := h (j + 1) v hj
    refine ⟨t', ht'.trans ?_⟩
    congr 1
    rw [Int.natCast_succ, Int.add_mul]
    omega
theorem rng_list {a b c : Int} {r L : Addr} {t₀ u₀ v₀ : Tok} {n : Nat} {h₀ : Heap} {m : Str → Option Value} {news : List (Addr × Obj)} {Q : Value → Shared → Prop} (hh : A.handled = none) (F : Fr h₀ L s.heap m) (N : News h₀ L s.heap news) (hr : IsRange s.heap r a b c t₀ u₀ v₀) (hsmall : Builtin.Range.small a b c = true) (hn : Builtin.Range.rangeSize a b c = (n : Int)) (hz : n ≤ 2 ^ 24)
    (h : ∀ D us k h' tk, Fr h₀ L h' m → News h₀ L h' ((D, listOf (List.toArray us) k) :: news) → (∀ p ∈ news, p.1 < D) → IntsAre us (rangeInts a c n) → Q (.ref D) { s with heap := h', toks := tk }) :
    wpAny (model prog w) A (call (.type "list") [.ref r]) Q E s := by
  refine call_list_range hh hr hsmall hn hz fun h' tk acc k hk hD hI => ?_
  have hD' : h'.get? s.heap.objs.size = some (listOf (List.toArray acc.toList) k) := by
    rw [Array.toArray_toList]
    exact hD
  exact h _ acc.toList k h' tk (F.keeps hk) (news_pushed F N hk hD' rfl) (fun p hp => Heap.lt_size (N p hp).1) (rng_ints _ _ _ _ (by rw [Array.length_toList]; exact hI.1) fun j v hj => hI.2 j v (by rw [← hj, Array.getElem?_toList]))
end
/-- what one turn of the inner loop makes of distance, result, minimum and the row -/
def cst (x y p i j : Nat) : Int := if wl y (p + i) = wl x (p + j) then 0 else 2
def mn2 (a b : Int) : Int := if b < a then b else a
structure Dp where
  d : Int
  r : Int
  mn : Int
  row : List Int
def dpStep (c : Int) (j : Nat) (S : Dp) : Dp :=
  let r' := mn2 (mn2 S.r (S.row.getD j 0) + 2) (S.d + c)
  ⟨S.row.getD j 0, r', if r' < S.mn then r' else S.mn, S.row.set j r'⟩
def inF (x y p i : Nat) (row : List Int) : Nat → Dp
  | 0 => ⟨(i : Int) * 2, (i : Int) * 2, 9223372036854775807, row⟩
  | j + 1 => dpStep (cst x y p i j) j (inF x y p i row j)
def rowF (x y p n : Nat) : Nat → List Int
  | 0 => rangeInts 2 2 n
  | i + 1 => (inF x y p i (rowF x y p n i) n).row
def resF (x y p n : Nat) : Nat → Int
  | 0 => 0
  | i + 1 => (inF x y p i (rowF x y p n i) n).r
theorem in_len {x y p i : Nat} {row : List Int} : ∀ j, (inF x y p i row j).row.length = row.length
  | 0 => rfl
  | j + 1 => by
    show ((inF x y p i row j).row.set j _).length = _
    rw [List.length_set, in_len j]
theorem row_len {x y p n : Nat} : ∀ i, (rowF x y p n i).length = n
  | 0 => rangeInts_length ..
  | i + 1 => by
    show (inF x y p i (rowF x y p n i) n).row.length = n
    rw [in_len, row_len i]
theorem res_is : ∀ x < 8, ∀ y < 8, x ≠ y → resF x y (preF x y) (3 - sufF x y - preF x y) (3 - sufF x y - preF x y) = dist x y := by decide +kernel
theorem res_le : ∀ x < 8, ∀ y < 8, ∀ i < 3, x ≠ y → i < 3 - sufF x y - preF x y → resF x y (preF x y) (3 - sufF x y - preF x y) (i + 1) ≤ 6 := by decide +kernel
theorem min_le_r {x y p i : Nat} {row : List Int} : ∀ n, 0 < n → (inF x y p i row n).mn ≤ (inF x y p i row n).r
  | 0, h => absurd h (Nat.lt_irrefl _)
  | j + 1, _ => by
    show (if mn2 (mn2 (inF x y p i row j).r ((inF x y p i row j).row.getD j 0) + 2) ((inF x y p i row j).d + cst x y p i j) < (inF x y p i row j).mn then mn2 (mn2 (inF x y p i row j).r ((inF x y p i row j).row.getD j 0) + 2) ((inF x y p i row j).d + cst x y p i j) else (inF x y p i row j).mn) ≤ mn2 (mn2 (inF x y p i row j).r ((inF x y p i row j).row.getD j 0) + 2) ((inF x y p i row j).d + cst x y p i j)
    split <;> omega
theorem rng_small (n : Nat) (h0 : 0 < n) (h3 : n ≤ 3) : Builtin.Range.small 2 (2 * ((n : Int) + 1)) 2 = true := by
  have h : ∀ n < 4, Builtin.Range.small 2 (2 * (((n : Nat) : Int) + 1)) 2 = true := by decide +kernel
  exact h n (by omega)
theorem rng_size (n : Nat) (h0 : 0 < n) (h3 : n ≤ 3) : Builtin.Range.rangeSize 2 (2 * ((n : Int) + 1)) 2 = (n : Int) := by
  have h : ∀ n < 4, Builtin.Range.rangeSize 2 (2 * (((n : Nat) : Int) + 1)) 2 = ((n : Nat) : Int) := by decide +kernel
  exact h n (by omega)
theorem rng1_small (n : Nat) (h3 : n ≤ 8) : Builtin.Range.small 0 (n : Int) 1 = true := by
  have h : ∀ n < 9, Builtin.Range.small 0 ((n : Nat) : Int) 1 = true := by decide +kernel
  exact h n (by omega)
theorem rng1_size (n : Nat) (h3 : n ≤ 8) : Builtin.Range.rangeSize 0 (n : Int) 1 = (n : Int) := by
  have h : ∀ n < 9, Builtin.Range.rangeSize 0 ((n : Nat) : Int) 1 = ((n : Nat) : Int) := by decide +kernel
  exact h n (by omega)
theorem min_mn {prog : Program} {w : World} {A : Around} {E : Value → Shared → Prop} {s : Shared} {h₀ : Heap} {L : Addr} {m : Str → Option Value} {news : List (Addr × Obj)} {a b : Int} {t u : Tok} {Q : Value → Shared → Prop} (hh : A.handled = none) (F : Fr h₀ L s.heap m) (N : News h₀ L s.heap news)
    (h : ∀ h' tk t', Fr h₀ L h' m → News h₀ L h' news → Q (.int (mn2 a b) t') { s with heap := h', toks := tk }) : wpAny (model prog w) A (call (.builtin "min") [.int a t, .int b u]) Q E s :=
  min_two_N hh F N fun h' tk F' N' => h h' tk _ F' N'
theorem con_cons {z a : Str} {l : List Str} (h : (a :: l).contains z = false) : z ≠ a ∧ l.contains z = false := by
  rw [List.contains_cons, Bool.or_eq_false_iff] at h
  exact ⟨fun e => by rw [e] at h; simp at h, h.2⟩
theorem con_mk {z a : Str} {l : List Str} (h : z ≠ a) (g : l.contains z = false) : (a :: l).contains z = false := by
  rw [List.contains_cons, g, Bool.or_false]
  simpa using h
theorem ne3 {z a b c : Str} {x y u : Value} (h : ∀ p ∈ [(a, x), (b, y), (c, u)], z ≠ p.1) : z ≠ a ∧ z ≠ b ∧ z ≠ c := ⟨h _ (.head _), h _ (.tail _ (.head _)), h _ (.tail _ (.tail _ (.head _)))⟩
theorem led_tail {h₀ h : Heap} {L : Addr} {q : Addr × Obj} {news : List (Addr × Obj)} (N : News h₀ L h (q :: news)) : News h₀ L h news := fun p hp => N p (.tail _ hp)

set_option maxRecDepth 100000 in
set_option maxHeartbeats 8000000 in
theorem levC : ∀ (w : World) (news : List (Addr × Obj)) (x y : Nat) (ta tb tc : Tok), x < 8 → y < 8 → x ≠ y →
    CallC w 2 53 [.str (sub x 0 3) ta, .str (sub y 0 3) tb, .int 6 tc] news (fun r led' => (∃ t, r = .int (dist x y) t) ∧ led' = news) := by
  intro w news x y ta tb tc hx hy hxy
  w_top off
  unfold CallC
  k_fill
  intro loose mean mg mb dp un gd cn cs a ccd cl outer A₀ base h₀ L m s Q E B F X N T hk hdp hun hret
  k_with_none
  k_with "exec While BoolOp" => (refine Stop.out ?_)
  k_with "KswEnd" => (refine Stop.out ?_)
  have hne := word_ne x hx y hy hxy
  have hP2 := pre_le x y
  refine wpAny_call ?_
  k_dflt k_enter
  k_steps
  · exact absurd (beq_iff_eq.mp (by assumption)) hne
  unfold Stop
  rename Fr _ _ _ _ => lF'
  rename News _ _ _ _ => lN'
  with_unfolding_all refine' ksw_while (fun _ => news) (fun c : Int × Tok => [(Str.ofString "pre", Value.int c.1 c.2)]) (fun _ => True) [] (fun c => ∃ p : Nat, c.1 = (p : Int) ∧ p ≤ preF x y) (fun c => preF x y - c.1.toNat) (0, _) lF' lN' trivial ?kk ?kp ?_
  case kk => kst_all
  case kp => exact ⟨0, rfl, Nat.zero_le _⟩
  clear lF' lN'
  rintro ⟨_, t1⟩ u h tk _ ⟨p, rfl, hp⟩ F' N'
  have hp3 : p < 3 := by omega
  have hl1 := F3 x hx p (by omega) 3 (by omega)
  have hl2 := F3 y hy p (by omega) 3 (by omega)
  have hw1 := F3 x hx 0 (by omega) 3 (by omega)
  have hw2 := F3 y hy 0 (by omega) 3 (by omega)
  try dsimp only at F'
  try dsimp only
  try k_fold
  k_with "subscriptTail Name Slice str ref" => k_dflt ((rename Fr _ _ _ _ => lF'); (rename News _ _ _ _ => lN'); (refine' slice_strN_sn (x := sub _ 0 3) (s := ⟨_, _, _, _, _⟩) (hsz := ?zz) lF' lN' ?_; (case zz => first | (rw [hw1]; decide) | (rw [hw2]; decide))); (intro h9 t9 tk9 F9 N9); (first | rw [F1 x hx p hp3] | rw [F1 y hy p hp3]); (try dsimp only); (try k_fold))
  k_with "subscriptTail Name Name str int" => k_dflt ((refine' item_str (x := sub _ 0 3) ?ia ?ib ?ic ?_; (case ia => exact fits3 hp3); (case ib => first | (rw [hw1]; omega) | (rw [hw2]; omega)); (case ic => first | (rw [hw1]; omega) | (rw [hw2]; omega))); (intro _); (first | rw [F2 x hx p hp3] | rw [F2 y hy p hp3]))
  k_with "truthy str" => k_dflt ((refine' P.truthy_str (x := sub _ _ _) ?za ?_; (case za => first | (rw [hl1]; omega) | (rw [hl2]; omega))); (first | rw [str_true hx (p := p) (q := 3) (by omega) (by omega) (by omega)] | rw [str_true hy (p := p) (q := 3) (by omega) (by omega) (by omega)]))
  k_steps
  · unfold Stop
    have hlt : p < preF x y := by
      have e := pre_is x hx y hy p hp3 hxy hp
      rw [decide_eq_true (ltr_yes (c := wl x p) (d := wl y p) (by assumption))] at e
      exact of_decide_eq_true e.symm
    refine' ksw_end (_, _) (by assumption) (by assumption) (fun p hp => hp) trivial (by kst_all) ?s77 ?i77 ?m77
    case s77 => intro y h2 h3; have a1 := h2 _ (.head _); simp only [kstB, if_neg a1, h3, Bool.false_eq_true, if_false]
    case i77 => exact ⟨p + 1, by push_cast; rfl, hlt⟩
    case m77 => dsimp only; omega
  unfold Stop
  have hpe : p = preF x y := by
    have e := pre_is x hx y hy p hp3 hxy hp
    rw [decide_eq_false (ltr_no (c := wl x p) (d := wl y p) (by assumption))] at e
    have := of_decide_eq_false e.symm
    omega
  have hsuf := suf_lt x hx y hy hxy
  rw [← hpe] at hsuf
  rename Fr _ _ _ _ => lF'
  rename News _ _ _ _ => lN'
  with_unfolding_all refine' ksw_while (fun _ => news) (fun c : Int × Tok => [(Str.ofString "post", Value.int c.1 c.2)]) (fun _ => True) [] (fun c => ∃ q : Nat, c.1 = -(q : Int) ∧ q ≤ sufF x y) (fun c => sufF x y - (-c.1).toNat) (0, _) lF' lN' trivial ?kk2 ?kp2 ?_
  case kk2 => kst_all
  case kp2 => exact ⟨0, rfl, Nat.zero_le _⟩
  clear lF' lN'
  rintro ⟨_, t2⟩ u2 h2 tk2 _ ⟨q, rfl, hq⟩ F2' N2'
  have hq3 : q < 3 - p := by omega
  try dsimp only at F2'
  try dsimp only
  try k_fold
  have hm1 := F3 x hx p (by omega) (3 - q) (by omega)
  have hm2 := F3 y hy p (by omega) (3 - q) (by omega)
  k_with_none
  k_with "KswEnd" => (refine Stop.out ?_)
  k_with "exec For Name Call cons nil" => (refine Stop.out ?_)
  k_with "eval BoolOp" => k_dflt (refine or_merge ?_; walk1; refine ⟨_, _, rfl, ?_⟩)
  k_with "subscriptTail Name Slice str ref" => k_dflt ((rename Fr _ _ _ _ => lF'); (rename News _ _ _ _ => lN'); (first | refine' slice_or (s := ⟨_, _, _, _, _⟩) hx hp3 hq3 lF' lN' ?_ | refine' slice_or (s := ⟨_, _, _, _, _⟩) hy hp3 hq3 lF' lN' ?_); (intro h9 t9 tk9 F9 N9); (try dsimp only); (try k_fold))
  k_with "subscriptTail Name BinOp str int" => k_dflt ((refine' item_str (x := sub _ p 3) ?ia ?ib ?ic ?_; (case ia => exact fits3n (by omega)); (case ib => first | (rw [hl1]; omega) | (rw [hl2]; omega)); (case ic => first | (rw [hl1]; omega) | (rw [hl2]; omega))); (intro _); (first | rw [F5 x hx p hp3 q hq3] | rw [F5 y hy p hp3 q hq3]))
  k_with "truthy str" => k_dflt ((refine' P.truthy_str (x := sub _ p (3 - q)) ?za ?_; (case za => first | (rw [hm1]; omega) | (rw [hm2]; omega))); (first | rw [str_true hx (p := p) (q := 3 - q) (by omega) (by omega) (by omega)] | rw [str_true hy (p := p) (q := 3 - q) (by omega) (by omega) (by omega)]))
  obtain ⟨n, hn⟩ : ∃ n, n = 3 - q - p := ⟨_, rfl⟩
  rw [← hn] at hm1 hm2
  have hn0 : 0 < n := by omega
  have hn3 : n ≤ 3 := by omega
  k_with "call builtin:len" => k_dflt ((refine' P.len_str (x := sub _ p (3 - q)) ?zf ?_; (case zf => first | (rw [hm1]; omega) | (rw [hm2]; omega))); (first | rw [hm1] | rw [hm2]))
  k_with "call type:list" => (refine Stop.out ?_)
  k_steps
  · unfold Stop
    have hlt : q < sufF x y := by
      have e := suf_is x hx y hy q (by omega) hxy hq
      rw [decide_eq_true (ltr_yes (c := wl x (2 - q)) (d := wl y (2 - q)) (by assumption))] at e
      exact of_decide_eq_true e.symm
    refine' ksw_end (_, _) (by assumption) (by assumption) (fun p hp => hp) trivial (by kst_all) ?s78 ?i78 ?m78
    case s78 => intro y h2 h3; have a1 := h2 _ (.head _); simp only [kstB, if_neg a1, h3, Bool.false_eq_true, if_false]
    case i78 => exact ⟨q + 1, by push_cast; omega, hlt⟩
    case m78 => dsimp only; omega
  unfold Stop
  have hqe : q = sufF x y := by
    have e := suf_is x hx y hy q (by omega) hxy hq
    rw [decide_eq_false (ltr_no (c := wl x (2 - q)) (d := wl y (2 - q)) (by assumption))] at e
    have := of_decide_eq_false e.symm
    omega
  rename Fr _ _ _ _ => lF'
  rename News _ _ _ _ => lN'
  rename IsRange _ _ _ _ _ _ _ _ => rgX
  refine' rng_list (n := n) rfl lF' lN' rgX (rng_small n hn0 hn3) (rng_size n hn0 hn3) (by omega) ?_
  clear lF' lN' rgX
  intro ra us k0 h8 tk8 F8 N8 hl8 hI8
  try dsimp only
  try k_fold
  k_with_none
  k_with "exec For Name Call cons nil" => k_dflt ((rename Fr _ _ _ _ => lF'); (with_unfolding_all refine' For_invVF lF' ?k1 ?k2 ?_; (case k1 => exact rfl); (case k2 => exact rfl); k_whole))
  k_with "pyIter ref" => (refine Stop.out ?_)
  k_with "InvEndN" => (refine Stop.out ?_)
  k_with "call builtin:len" => k_dflt ((refine' P.len_str (x := sub _ p (3 - q)) ?zf ?_; (case zf => first | (rw [hm1]; omega) | (rw [hm2]; omega))); (first | rw [hm1] | rw [hm2]))
  k_steps
  unfold Stop
  rename Fr _ _ _ _ => lF'
  rename News _ _ _ _ => lN'
  rename IsRange _ _ _ _ _ _ _ _ => rgX
  with_unfolding_all refine' kst_range (σ := List Value × Nat × Int × Tok) (n := n) (fun c => (ra, listOf c.1.toArray c.2.1) :: news) (fun c => [(Str.ofString "result", Value.int c.2.2.1 c.2.2.2)]) (fun _ => True) [Str.ofString "bchar", Str.ofString "distance", Str.ofString "minimum", Str.ofString "substitute", Str.ofString "insert_delete", Str.ofString "index"] (fun pre c => IntsAre c.1 (rowF x y p n pre.length) ∧ c.2.2.1 = resF x y p n pre.length) (us, k0, 0, _) (by rfl) rgX (rng1_small n (by omega)) (rng1_size n (by omega)) lF' lN' trivial ?kk3 ⟨hI8, rfl⟩ ?turn ?done
  case kk3 => kst_all
  case turn =>
    clear lF' lN' rgX
    rintro ⟨vs1, k1, r1, tr1⟩ pre k t3 u3 h9 tk9 own hk1 hlt hoff1 _ ⟨hI1, hr1⟩ F9 N9
    obtain ⟨i, hi⟩ : ∃ i, i = pre.length := ⟨_, rfl⟩
    rw [← hi] at hk1 hlt
    have hk2 : k = (i : Int) := by omega
    subst hk2
    clear hk1
    dsimp only at hI1 hr1
    rw [← hi] at hI1 hr1
    have hoff2 : ∀ p ∈ news ++ own, p.1 ≠ ra := fun p hp => (List.mem_append.mp hp).elim (fun hq => Nat.ne_of_lt (hl8 p hq)) fun hq => hoff1 p hq ra (.head _)
    dsimp only [List.cons_append] at N9
    try dsimp only at F9
    try dsimp only
    try k_fold
    have hiq : i < 3 - q - p := by omega
    k_with "subscriptTail Name Name str int" => k_dflt ((refine' item_str (x := sub y p (3 - q)) ?ia ?ib ?ic ?_; (case ia => exact fits3 (by omega)); (case ib => rw [hm2]; omega); (case ic => rw [hm2]; omega)); (intro _); rw [F6 y hy p hp3 (3 - q) (by omega) i hiq])
    k_steps
    unfold Stop
    rename Fr _ _ _ _ => lF'
    rename News _ _ _ _ => lN'
    rename IsRange _ _ _ _ _ _ _ _ => rgX
    with_unfolding_all refine' kst_range (σ := (List Value × Nat) × (Int × Tok) × (Int × Tok) × (Int × Tok)) (n := n) (fun c => (ra, listOf c.1.1.toArray c.1.2) :: (news ++ own)) (fun c => [(Str.ofString "distance", Value.int c.2.1.1 c.2.1.2), (Str.ofString "result", Value.int c.2.2.1.1 c.2.2.1.2), (Str.ofString "minimum", Value.int c.2.2.2.1 c.2.2.2.2)]) (fun _ => True) [Str.ofString "substitute", Str.ofString "insert_delete"] (fun pre c => IntsAre c.1.1 (inF x y p i (rowF x y p n i) pre.length).row ∧ c.2.1.1 = (inF x y p i (rowF x y p n i) pre.length).d ∧ c.2.2.1.1 = (inF x y p i (rowF x y p n i) pre.length).r ∧ c.2.2.2.1 = (inF x y p i (rowF x y p n i) pre.length).mn) ((vs1, k1), (_, _), (_, _), (_, _)) (by rfl) rgX (rng1_small n (by omega)) (rng1_size n (by omega)) lF' lN' trivial ?kk4 ⟨hI1, rfl, rfl, rfl⟩ ?turn2 ?done2
    case kk4 => kst_all
    case turn2 =>
      clear lF' lN' rgX
      rintro ⟨⟨vs2, k2⟩, ⟨d2, td2⟩, ⟨r2, tr2⟩, m2, tm2⟩ pre2 kk t4 u4 h7 tk7 own2 hj1 hlt2 hoff3 _ ⟨hI2, hd2, hr2, hmn2⟩ F7 N7
      obtain ⟨j, hj⟩ : ∃ j, j = pre2.length := ⟨_, rfl⟩
      rw [← hj] at hj1 hlt2
      have hj2 : kk = (j : Int) := by omega
      subst hj2
      clear hj1
      dsimp only at hI2 hd2 hr2 hmn2
      rw [← hj] at hI2 hd2 hr2 hmn2
      subst hd2
      subst hr2
      subst hmn2
      obtain ⟨S, hS⟩ : ∃ S, S = inF x y p i (rowF x y p n i) j := ⟨_, rfl⟩
      rw [← hS] at hI2 F7
      have hSl : S.row.length = n := by rw [hS, in_len, row_len]
      have hvl : vs2.length = n := by rw [hI2.length, hSl]
      obtain ⟨tq, hq9⟩ := ints_at hI2 (i := j) (by omega)
      have hoff4 : ∀ p ∈ (news ++ own) ++ own2, p.1 ≠ ra := fun p hp => (List.mem_append.mp hp).elim (hoff2 p) fun hq => hoff3 p hq ra (.head _)
      have hjq : j < 3 - q - p := by omega
      have hc1 := wl_in y hy (p + i)
      have hc2 := wl_in x hx (p + j)
      dsimp only [List.cons_append] at N7
      try dsimp only at F7
      try dsimp only
      try k_fold
      k_with "subscriptTail Name Name str int" => k_dflt ((refine' item_str (x := sub x p (3 - q)) ?ia ?ib ?ic ?_; (case ia => exact fits3 (by omega)); (case ib => rw [hm1]; omega); (case ic => rw [hm1]; omega)); (intro _); rw [F6 x hx p hp3 (3 - q) (by omega) j hjq])
      k_with "call ref" => k_dflt (
        refine' callC_use (subC w _ _ _ _ _ hc1.1 hc1.2 hc2.1 hc2.2) ?k1 ?k2 ?k3 ?k4 ?k5 ?kK ?kd ?ku ?_;
        (case k1 => k_asm);
        (case k2 => k_asm);
        (case k3 => k_asm);
        (case k4 => k_asm);
        (case k5 => k_asm);
        (case kK => first | exact rfl | assumption);
        (case kd => ktr_room);
        (case ku => ktr_units);
        intro r9 led9 h9 tk9 F9 N9 hR;
        obtain ⟨⟨t9, e1⟩, e2⟩ := hR;
        (change r9 = Value.int (cst x y p i j) t9 at e1);
        subst e1;
        subst e2;
        (try dsimp only);
        (try k_fold))
      k_with "subscriptTail Name Name ref int" => k_dflt (refine' itemN ?k1 (.head _) (by omega) hq9 ?_; (case k1 => k_asm))
      k_with "call builtin:min" => k_dflt (refine' min_mn rfl ?k1 ?k2 ?_; (case k1 => k_asm); (case k2 => k_asm); intro h9 tk9 t9 F9 N9; (try dsimp only); (try k_fold))
      k_with "setItem ref int" => k_dflt (refine' ki_set ?k1 ?k2 ?k3 ?k4 ?k5 (Upd.head hoff4) ?_; (case k1 => k_asm); (case k2 => k_asm); (case k3 => omega); (case k4 => omega); (case k5 => exact kset (by rw [Int.toNat_natCast]; show j < vs2.length; omega)); intro h9 F9 N9; (rw [Int.toNat_natCast] at N9); (try dsimp only); (try k_fold))
      k_steps
      all_goals unfold Stop
      · refine' kst_end ((vs2.set j (.int (mn2 (mn2 S.r (S.row.getD j 0) + 2) (S.d + cst x y p i j)) _), k2), (_, _), (_, _), (_, _)) (by assumption) (by assumption) subs3 subs2 rfl trivial (by kst_all) ?r81 ?i81
        case r81 =>
          intro z h1 h2 h3
          obtain ⟨h4, h5, h6⟩ := ne3 h2
          obtain ⟨h7, h8⟩ := con2 h3
          simp only [kstB, h3, if_neg h1, if_neg h4, if_neg h5, if_neg h6, if_neg h7, if_neg h8, Bool.false_eq_true, if_false]
        case i81 =>
          rw [show (pre2 ++ [(j : Int)]).length = j + 1 by rw [List.length_append, List.length_cons, List.length_nil, ← hj]]
          show IntsAre _ (dpStep (cst x y p i j) j (inF x y p i (rowF x y p n i) j)).row ∧ _ = (dpStep (cst x y p i j) j (inF x y p i (rowF x y p n i) j)).d ∧ _ = (dpStep (cst x y p i j) j (inF x y p i (rowF x y p n i) j)).r ∧ _ = (dpStep (cst x y p i j) j (inF x y p i (rowF x y p n i) j)).mn
          rw [← hS]
          exact ⟨ints_set hI2 j, rfl, rfl, (if_pos (by assumption)).symm⟩
      · refine' kst_end ((vs2.set j (.int (mn2 (mn2 S.r (S.row.getD j 0) + 2) (S.d + cst x y p i j)) _), k2), (_, _), (_, _), (_, _)) (by assumption) (by assumption) subs3 subs2 rfl trivial (by kst_all) ?r82 ?i82
        case r82 =>
          intro z h1 h2 h3
          obtain ⟨h4, h5, h6⟩ := ne3 h2
          obtain ⟨h7, h8⟩ := con2 h3
          simp only [kstB, h3, if_neg h1, if_neg h4, if_neg h5, if_neg h6, if_neg h7, if_neg h8, Bool.false_eq_true, if_false]
        case i82 =>
          rw [show (pre2 ++ [(j : Int)]).length = j + 1 by rw [List.length_append, List.length_cons, List.length_nil, ← hj]]
          show IntsAre _ (dpStep (cst x y p i j) j (inF x y p i (rowF x y p n i) j)).row ∧ _ = (dpStep (cst x y p i j) j (inF x y p i (rowF x y p n i) j)).d ∧ _ = (dpStep (cst x y p i j) j (inF x y p i (rowF x y p n i) j)).r ∧ _ = (dpStep (cst x y p i j) j (inF x y p i (rowF x y p n i) j)).mn
          rw [← hS]
          exact ⟨ints_set hI2 j, rfl, rfl, (if_neg (by assumption)).symm⟩
    case done2 =>
      clear lF' lN' rgX
      rintro ⟨⟨vs2, k2⟩, ⟨d2, td2⟩, ⟨r2, tr2⟩, m2, tm2⟩ u4 h7 tk7 _ ⟨hI2, hd2, hr2, hmn2⟩ F7 N7
      dsimp only at hI2 hd2 hr2 hmn2 N7
      rw [rangeKs_length] at hI2 hd2 hr2 hmn2
      try dsimp only at F7
      try dsimp only
      try k_fold
      have hm6 : m2 ≤ 6 := by
        rw [hmn2]
        refine Int.le_trans (min_le_r n hn0) ?_
        have e := res_le x hx y hy i (by omega) hxy (by rw [← hpe, ← hqe, ← hn]; exact hlt)
        rw [← hpe, ← hqe, ← hn] at e
        exact e
      k_steps
      unfold Stop
      refine' kst_end (vs2, k2, r2, tr2) (by assumption) (by assumption) subs3 subs2 rfl trivial (by kst_all) ?r83 ?i83
      case r83 =>
        intro z h1 h2 h3
        have h4 := h2 _ (.head _)
        obtain ⟨g1, g2⟩ := con_cons h3
        obtain ⟨g3, g4⟩ := con_cons g2
        obtain ⟨g5, g6⟩ := con_cons g4
        obtain ⟨g7, g8⟩ := con_cons g6
        obtain ⟨g9, g10⟩ := con_cons g8
        have g11 := ne1 g10
        have g12 : [Str.ofString "substitute", Str.ofString "insert_delete"].contains z = false := con_mk g7 (con1 g9)
        simp only [kstB, h3, g12, if_neg h1, if_neg h4, if_neg g1, if_neg g3, if_neg g5, if_neg g7, if_neg g9, if_neg g11, Bool.false_eq_true, if_false]
      case i83 =>
        rw [show (pre ++ [(i : Int)]).length = i + 1 by rw [List.length_append, List.length_cons, List.length_nil, ← hi]]
        exact ⟨hI2, hr2⟩
  case done =>
    clear lF' lN' rgX
    rintro ⟨vs1, k1, r1, tr1⟩ u3 h9 tk9 _ ⟨hI1, hr1⟩ F9 N9
    dsimp only at hI1 hr1 N9
    rw [rangeKs_length] at hI1 hr1
    try dsimp only at F9
    try dsimp only
    try k_fold
    k_steps
    have hfin : r1 = dist x y := by
      have e := res_is x hx y hy hxy
      rw [← hpe, ← hqe, ← hn] at e
      rw [hr1, e]
    subst hfin
    exact hret _ _ _ _ (by assumption) (led_tail (by assumption)) ⟨⟨_, rfl⟩, rfl⟩

/-- the truth table, over k variables, of the z-th -/
def tvar : Nat → Nat → Nat
  | 0, _ => 0
  | k + 1, z => if z = k then (2 ^ (2 ^ k) - 1) <<< (2 ^ k) else tvar k z ||| (tvar k z <<< (2 ^ k))
theorem tvar_lt : ∀ k z, tvar k z < 2 ^ (2 ^ k)
  | 0, z => by
    show 0 < _
    exact Nat.two_pow_pos _
  | k + 1, z => by
    have ih := tvar_lt k z
    have e : 2 ^ (2 ^ (k + 1)) = 2 ^ (2 ^ k) * 2 ^ (2 ^ k) := by rw [← Nat.pow_add]; congr 1; rw [Nat.pow_succ]; omega
    have hp := Nat.two_pow_pos (2 ^ k)
    have sh : ∀ a, a < 2 ^ (2 ^ k) → a <<< (2 ^ k) < 2 ^ (2 ^ (k + 1)) := by
      intro a ha
      rw [Nat.shiftLeft_eq, e]
      exact Nat.mul_lt_mul_of_pos_right ha hp
    unfold tvar
    split
    · exact sh _ (by omega)
    · exact Nat.or_lt_two_pow (Nat.lt_of_lt_of_le ih (Nat.pow_le_pow_right (by omega) (Nat.pow_le_pow_right (by omega) (by omega)))) (sh _ ih)
theorem tvar_bit : ∀ k z i, z < k → i < 2 ^ k → (tvar k z).testBit i = i.testBit z
  | 0, z, i, hz, _ => absurd hz (Nat.not_lt_zero _)
  | k + 1, z, i, hz, hi => by
    have e2 : 2 ^ (k + 1) = 2 ^ k + 2 ^ k := by rw [Nat.pow_succ]; omega
    unfold tvar
    split
    · rename_i hzk
      subst hzk
      rw [Nat.testBit_shiftLeft, Nat.testBit_two_pow_sub_one]
      by_cases h : i < 2 ^ z
      · rw [Nat.testBit_lt_two_pow h]
        simp
        omega
      · obtain ⟨j, rfl⟩ : ∃ j, i = 2 ^ z + j := ⟨i - 2 ^ z, by omega⟩
        rw [Nat.testBit_two_pow_add_eq, Nat.testBit_lt_two_pow (by omega)]
        simp
        omega
    · have hzk : z < k := by omega
      rw [Nat.testBit_or, Nat.testBit_shiftLeft]
      by_cases h : i < 2 ^ k
      · rw [tvar_bit k z i hzk h]
        have : ¬ (i ≥ 2 ^ k) := by omega
        simp [this]
      · obtain ⟨j, rfl⟩ : ∃ j, i = 2 ^ k + j := ⟨i - 2 ^ k, by omega⟩
        have h0 : (tvar k z).testBit (2 ^ k + j) = false := Nat.testBit_lt_two_pow (Nat.lt_of_lt_of_le (tvar_lt k z) (Nat.pow_le_pow_right (by omega) (by omega)))
        rw [h0, Nat.testBit_two_pow_add_gt hzk, show 2 ^ k + j - 2 ^ k = j by omega, tvar_bit k z j hzk (by omega)]
        simp
/-- the pair of masks as one number -/
def pr (R Y : Nat) : Nat := R ||| (Y <<< 8)
theorem pr_lt {R Y : Nat} (hR : R < 256) (hY : Y < 256) : pr R Y < 2 ^ 16 := by
  refine Nat.or_lt_two_pow (Nat.lt_of_lt_of_le hR (by decide)) ?_
  rw [Nat.shiftLeft_eq]
  omega
def rT (z : Nat) : Nat := tvar 16 z
def yT (z : Nat) : Nat := tvar 16 (z + 8)
theorem rT_bit {R Y z : Nat} (hR : R < 256) (hY : Y < 256) (hz : z < 8) : (rT z).testBit (pr R Y) = R.testBit z := by
  unfold rT
  rw [tvar_bit 16 z _ (by omega) (pr_lt hR hY)]
  unfold pr
  rw [Nat.testBit_or, Nat.testBit_shiftLeft]
  have : ¬ (z ≥ 8) := by omega
  simp [this]
theorem yT_bit {R Y z : Nat} (hR : R < 256) (hY : Y < 256) (hz : z < 8) : (yT z).testBit (pr R Y) = Y.testBit z := by
  unfold yT
  rw [tvar_bit 16 (z + 8) _ (by omega) (pr_lt hR hY)]
  unfold pr
  rw [Nat.testBit_or, Nat.testBit_shiftLeft, Nat.testBit_lt_two_pow (Nat.lt_of_lt_of_le hR (Nat.pow_le_pow_right (n := 2) (i := 8) (by omega) (by omega)))]
  simp
def oneT : Nat := 2 ^ 65536 - 1
theorem oneT_bit {i : Nat} (hi : i < 2 ^ 16) : oneT.testBit i = true := by
  unfold oneT
  rw [Nat.testBit_two_pow_sub_one]
  simpa using hi
/-- the places between x and tip, as a mask -/
def CMs : Nat := 0x80c0a0f088ccaaffc040f050cc44ff55a0f02030aaff2233f0503010ff55331188ccaaff080c0a0fcc44ff550c040f05aaff22330a0f0203ff5533110f050301
def CM (x t : Nat) : Nat := (CMs >>> (8 * (8 * x + t))) &&& 255
theorem CM_bit : ∀ x < 8, ∀ t < 8, ∀ z < 8, (CM x t).testBit z = betw x t z := by decide +kernel
/-- where all the places of the mask, below k, lie in the set of table f -/
def allT (f : Nat → Nat) (m : Nat) : Nat → Nat
  | 0 => oneT
  | z + 1 => if m.testBit z then allT f m z &&& f z else allT f m z
/-- where some tip below k serves the body x -/
def bodX (x : Nat) : Nat → Nat
  | 0 => 0
  | t + 1 => bodX x t ||| (allT rT (CM x t) 8 &&& allT yT (CM x (7 - t)) 8)
structure C4 where
  a : Nat
  b : Nat
  c : Nat
  d : Nat
def C4.add (s : C4) (k : Nat) : C4 := ⟨s.a ^^^ k, s.b ^^^ (s.a &&& k), s.c ^^^ (s.b &&& (s.a &&& k)), s.d ^^^ (s.c &&& (s.b &&& (s.a &&& k)))⟩
def C4.at (s : C4) (i : Nat) : Nat := (s.a.testBit i).toNat + 2 * (s.b.testBit i).toNat + 4 * (s.c.testBit i).toNat + 8 * (s.d.testBit i).toNat
def cnt (l : List Nat) : C4 := l.foldl C4.add ⟨0, 0, 0, 0⟩
def C4.gt (s r : C4) : Nat :=
  (s.d &&& (r.d ^^^ oneT)) ||| (((s.d ^^^ r.d) ^^^ oneT) &&& ((s.c &&& (r.c ^^^ oneT)) ||| (((s.c ^^^ r.c) ^^^ oneT) &&& ((s.b &&& (r.b ^^^ oneT)) ||| (((s.b ^^^ r.b) ^^^ oneT) &&& (s.a &&& (r.a ^^^ oneT)))))))
def bodT : List Nat := (List.range 8).map fun x => bodX x 8
def hitT (t : Nat) : List Nat := (List.range 8).map fun z => rT z &&& yT (z ^^^ t)
theorem reimer_tables : ∀ t < 8, (cnt bodT).gt (cnt (hitT t)) = 0 := by decide +kernel
theorem add_at {s : C4} {k i : Nat} (h : s.at i ≤ 14) : (s.add k).at i = s.at i + (k.testBit i).toNat := by
  unfold C4.at C4.add at *
  simp only [Nat.testBit_xor, Nat.testBit_and]
  generalize s.a.testBit i = p at *
  generalize s.b.testBit i = q at *
  generalize s.c.testBit i = u at *
  generalize s.d.testBit i = v at *
  generalize k.testBit i = x at *
  revert h
  revert p q u v x
  decide
theorem cnt_from {i : Nat} : ∀ (l : List Nat) (s : C4), s.at i + l.length ≤ 15 → (l.foldl C4.add s).at i = s.at i + l.countP (fun k => k.testBit i)
  | [], s, _ => by simp
  | k :: r, s, h => by
    rw [List.length_cons] at h
    have e := add_at (s := s) (k := k) (i := i) (by omega)
    have hb : (k.testBit i).toNat ≤ 1 := by cases k.testBit i <;> decide
    rw [List.foldl_cons, cnt_from r (s.add k) (by omega), e, List.countP_cons]
    cases k.testBit i <;> simp <;> omega
theorem cnt_at {i : Nat} {l : List Nat} (h : l.length ≤ 15) : (cnt l).at i = l.countP (fun k => k.testBit i) := by
  have z : C4.at ⟨0, 0, 0, 0⟩ i = 0 := by simp [C4.at]
  unfold cnt
  rw [cnt_from l _ (by rw [z]; omega), z, Nat.zero_add]
theorem gt_at {s r : C4} {i : Nat} (hi : i < 2 ^ 16) (h : s.gt r = 0) : s.at i ≤ r.at i := by
  have hb : (s.gt r).testBit i = false := by rw [h]; exact Nat.zero_testBit i
  unfold C4.gt at hb
  simp only [Nat.testBit_or, Nat.testBit_and, Nat.testBit_xor, oneT_bit hi] at hb
  unfold C4.at
  generalize s.a.testBit i = p at *
  generalize s.b.testBit i = q at *
  generalize s.c.testBit i = u at *
  generalize s.d.testBit i = v at *
  generalize r.a.testBit i = p' at *
  generalize r.b.testBit i = q' at *
  generalize r.c.testBit i = u' at *
  generalize r.d.testBit i = v' at *
  revert hb
  revert p q u v p' q' u' v'
  decide
theorem allT_true {f : Nat → Nat} {m i : Nat} (hi : i < 2 ^ 16) : ∀ k, (∀ z < k, m.testBit z = true → (f z).testBit i = true) → (allT f m k).testBit i = true
  | 0, _ => oneT_bit hi
  | k + 1, h => by
    have ih := allT_true hi k fun z hz => h z (by omega)
    unfold allT
    split
    · rw [Nat.testBit_and, ih, h k (by omega) (by assumption)]
      rfl
    · exact ih
theorem bodX_true {x i t : Nat} (h : (allT rT (CM x t) 8 &&& allT yT (CM x (7 - t)) 8).testBit i = true) : ∀ k, t < k → (bodX x k).testBit i = true
  | 0, hk => absurd hk (Nat.not_lt_zero _)
  | k + 1, hk => by
    unfold bodX
    rw [Nat.testBit_or]
    by_cases e : t = k
    · subst e
      rw [h, Bool.or_true]
    · rw [bodX_true h k (by omega), Bool.true_or]
theorem countP_le {α : Type} {p q : α → Bool} : ∀ (l : List α), (∀ x ∈ l, p x = true → q x = true) → l.countP p ≤ l.countP q
  | l, h => List.countP_mono_left h
/-- Reimer's theorem of butterflies, for three places, turn by turn -/
theorem reimer {R Y t : Nat} {q : Nat → Bool} {tip : Nat → Nat} (hR : R < 256) (hY : Y < 256) (ht : t < 8) (htip : ∀ x < 8, q x = true → tip x < 8)
    (hr : ∀ x < 8, q x = true → ∀ z < 8, betw x (tip x) z = true → R.testBit z = true) (hy : ∀ x < 8, q x = true → ∀ z < 8, betw x (7 - tip x) z = true → Y.testBit z = true) :
    ((List.range 8).filter q).length ≤ ((List.range 8).filter fun x => R.testBit x && Y.testBit (x ^^^ t)).length := by
  have hi := pr_lt hR hY
  have h := gt_at hi (reimer_tables t ht)
  rw [cnt_at (by simp [bodT]), cnt_at (by simp [hitT])] at h
  rw [← List.countP_eq_length_filter, ← List.countP_eq_length_filter]
  refine Nat.le_trans ?_ (Nat.le_trans h ?_)
  · unfold bodT
    rw [List.countP_map]
    refine List.countP_mono_left fun x hx hq => ?_
    have hx8 := List.mem_range.mp hx
    refine bodX_true (t := tip x) ?_ 8 (htip x hx8 hq)
    rw [Nat.testBit_and, Bool.and_eq_true]
    constructor
    · refine allT_true hi 8 fun z hz hm => ?_
      rw [rT_bit hR hY hz]
      rw [CM_bit x hx8 _ (htip x hx8 hq) z hz] at hm
      exact hr x hx8 hq z hz hm
    · refine allT_true hi 8 fun z hz hm => ?_
      rw [yT_bit hR hY hz]
      rw [CM_bit x hx8 _ (by omega) z hz] at hm
      exact hy x hx8 hq z hz hm
  · unfold hitT
    rw [List.countP_map]
    refine List.countP_mono_left fun z hz hb => ?_
    have hz8 := List.mem_range.mp hz
    have hb : (rT z &&& yT (z ^^^ t)).testBit (pr R Y) = true := hb
    rw [Nat.testBit_and, rT_bit hR hY hz8, yT_bit hR hY (Nat.xor_lt_two_pow (n := 3) hz8 ht)] at hb
    exact hb

theorem layM_bit {M x y z : Nat} : ∀ k, (layM M x y k).testBit z = (M.testBit z || (decide (z < k) && betw x y z))
  | 0 => by simp [layM]
  | k + 1 => by
    have ih := layM_bit (M := M) (x := x) (y := y) (z := z) k
    have key : layM M x y (k + 1) = if betw x y k && !(layM M x y k).testBit k then layM M x y k ||| 2 ^ k else layM M x y k := rfl
    rw [key]
    by_cases hzk : z = k
    · subst hzk
      have e : (layM M x y z).testBit z = M.testBit z := by rw [ih]; simp
      cases hb : betw x y z <;> cases hm : M.testBit z <;> simp [e, hb, hm, Nat.testBit_or, Nat.testBit_two_pow_self]
    · have h2 : (2 ^ k).testBit z = false := by rw [Nat.testBit_two_pow]; simp; omega
      have hd : decide (z < k + 1) = decide (z < k) := by rw [decide_eq_decide]; omega
      rw [hd]
      split
      · rw [Nat.testBit_or, h2, Bool.or_false, ih]
      · exact ih
/-- the mask laid for the bodies one by one -/
def foldM (bs : List Nat) (f : Nat → Nat) (M : Nat) : Nat := bs.foldl (fun M x => layM M x (f x) 8) M
theorem foldM_bit {f : Nat → Nat} {z : Nat} (hz : z < 8) : ∀ (bs : List Nat) (M : Nat), (foldM bs f M).testBit z = (M.testBit z || bs.any fun x => betw x (f x) z)
  | [], M => by simp [foldM]
  | x :: r, M => by
    show (foldM r f (layM M x (f x) 8)).testBit z = _
    rw [foldM_bit hz r, layM_bit, List.any_cons]
    simp [hz, Bool.or_assoc]
theorem foldM_lt {f : Nat → Nat} : ∀ (bs : List Nat) (M : Nat), M < 256 → foldM bs f M < 256
  | [], M, h => h
  | x :: r, M, h => foldM_lt r _ (layM_lt h (Nat.le_refl _))
theorem foldM_app {f : Nat → Nat} {bs : List Nat} {x M : Nat} : foldM (bs ++ [x]) f M = layM (foldM bs f M) x (f x) 8 := by
  unfold foldM
  rw [List.foldl_append]
  rfl
theorem wingM_bit {bs ds : List Nat} {turn z : Nat} : ∀ k, (wingM bs ds turn k).testBit z = (decide (z < k) && bs.any (wing ds turn z))
  | 0 => by simp [wingM]
  | k + 1 => by
    have ih := wingM_bit (bs := bs) (ds := ds) (turn := turn) (z := z) k
    unfold wingM
    rw [Nat.testBit_or, ih]
    by_cases hzk : z = k
    · subst hzk
      cases bs.any (wing ds turn z) <;> simp [Nat.testBit_two_pow_self]
    · have h2 : (if bs.any (wing ds turn k) then 2 ^ k else 0).testBit z = false := by
        split
        · rw [Nat.testBit_two_pow]; simp; omega
        · exact Nat.zero_testBit z
      have hd : decide (z < k + 1) = decide (z < k) := by rw [decide_eq_decide]; omega
      rw [h2, hd, Bool.or_false]
theorem mask_eq {A B : Nat} (hA : A < 256) (hB : B < 256) (h : ∀ z < 8, A.testBit z = B.testBit z) : A = B := by
  refine Nat.eq_of_testBit_eq fun z => ?_
  by_cases hz : z < 8
  · exact h z hz
  · have hp : 256 ≤ 2 ^ z := Nat.pow_le_pow_right (n := 2) (i := 8) (by omega) (by omega)
    rw [Nat.testBit_lt_two_pow (Nat.lt_of_lt_of_le hA hp), Nat.testBit_lt_two_pow (Nat.lt_of_lt_of_le hB hp)]
theorem wing0_all : ∀ x < 8, ∀ d < 8, ∀ z < 8, (((z ^^^ x) ||| (d ^^^ 0 ^^^ x)) == (d ^^^ 0 ^^^ x)) = betw x d z := by decide +kernel
theorem wing7_all : ∀ x < 8, ∀ d < 8, ∀ z < 8, (((z ^^^ x) ||| (d ^^^ 7 ^^^ x)) == (d ^^^ 7 ^^^ x)) = betw x (7 - d) z := by decide +kernel
theorem any_congr {f g : Nat → Bool} : ∀ {l : List Nat}, (∀ x ∈ l, f x = g x) → l.any f = l.any g
  | [], _ => rfl
  | x :: r, h => by rw [List.any_cons, List.any_cons, h x (.head _), any_congr fun y hy => h y (.tail _ hy)]
section
variable {bs ds : List Nat} (hbx : ∀ x ∈ bs, x < 8 ∧ ds.getD x 0 < 8)
include hbx
theorem red_is : wingM bs ds 0 8 = foldM bs (fun x => ds.getD x 0) 0 := by
  refine mask_eq (wingM_lt 8) (foldM_lt bs 0 (by omega)) fun z hz => ?_
  rw [wingM_bit, foldM_bit hz, Nat.zero_testBit, Bool.false_or, decide_eq_true hz, Bool.true_and]
  exact any_congr fun x hx => wing0_all x (hbx x hx).1 _ (hbx x hx).2 z hz
theorem yel_is : wingM bs ds 7 8 = foldM bs (fun x => 7 - ds.getD x 0) 0 := by
  refine mask_eq (wingM_lt 8) (foldM_lt bs 0 (by omega)) fun z hz => ?_
  rw [wingM_bit, foldM_bit hz, Nat.zero_testBit, Bool.false_or, decide_eq_true hz, Bool.true_and]
  exact any_congr fun x hx => wing7_all x (hbx x hx).1 _ (hbx x hx).2 z hz
end
/-- the bodies -/
def bodies (ds : List Nat) : List Nat := (List.range 8).filter fun x => decide (ds.getD x 0 < 8)
theorem bodies_in {ds : List Nat} : ∀ x ∈ bodies ds, x < 8 ∧ ds.getD x 0 < 8 := by
  intro x hx
  unfold bodies at hx
  rw [List.mem_filter, List.mem_range, decide_eq_true_eq] at hx
  exact hx
def redM (ds : List Nat) : Nat := foldM (bodies ds) (fun x => ds.getD x 0) 0
def yelM (ds : List Nat) : Nat := foldM (bodies ds) (fun x => 7 - ds.getD x 0) 0
theorem redM_lt (ds : List Nat) : redM ds < 256 := foldM_lt _ 0 (by omega)
theorem yelM_lt (ds : List Nat) : yelM ds < 256 := foldM_lt _ 0 (by omega)
theorem law_true (ds : List Nat) {t : Nat} (ht : t < 8) : (bodies ds).length ≤ ((List.range 8).filter fun x => (redM ds).testBit x && (yelM ds).testBit (x ^^^ t)).length := by
  refine reimer (tip := fun x => ds.getD x 0) (redM_lt ds) (yelM_lt ds) ht (fun x hx hq => of_decide_eq_true hq) (fun x hx hq z hz hb => ?_) (fun x hx hq z hz hb => ?_)
  · unfold redM
    rw [foldM_bit hz, Nat.zero_testBit, Bool.false_or, List.any_eq_true]
    exact ⟨x, by unfold bodies; rw [List.mem_filter, List.mem_range]; exact ⟨hx, hq⟩, hb⟩
  · unfold yelM
    rw [foldM_bit hz, Nat.zero_testBit, Bool.false_or, List.any_eq_true]
    exact ⟨x, by unfold bodies; rw [List.mem_filter, List.mem_range]; exact ⟨hx, hq⟩, hb⟩

open LCg LCt PySem.Calls in
/-- the end of one turn of a comprehension: the same ledger, and R of the value -/
def EltEnd (h₀ : Heap) (L : Addr) (m : Str → Option Value) (led : List (Addr × Obj)) (R : Value → Prop) (s : Shared) (y : Value) (s' : Shared) : Prop :=
  ∃ h' tk', s' = { s with heap := h', toks := tk' } ∧ Fr h₀ L h' m ∧ News h₀ L h' led ∧ R y
theorem EltEnd.intro {h₀ : Heap} {L : Addr} {m : Str → Option Value} {led all : List (Addr × Obj)} {R : Value → Prop} {s : Shared} {y : Value} {h' : Heap} {tk' : Nat}
    (F : Fr h₀ L h' m) (N : News h₀ L h' all) (sub : ∀ p ∈ led, p ∈ all) (r : R y) : EltEnd h₀ L m led R s y { s with heap := h', toks := tk' } :=
  ⟨h', tk', rfl, F, fun p hp => N p (sub p hp), r⟩
def TestEnd (h₀ : Heap) (L : Addr) (m : Str → Option Value) (led : List (Addr × Obj)) (b : Bool) (s : Shared) (ok : Bool) (s' : Shared) : Prop :=
  ∃ h' tk', s' = { s with heap := h', toks := tk' } ∧ Fr h₀ L h' m ∧ News h₀ L h' led ∧ ok = b
theorem TestEnd.intro {h₀ : Heap} {L : Addr} {m : Str → Option Value} {led all : List (Addr × Obj)} {b : Bool} {s : Shared} {ok : Bool} {h' : Heap} {tk' : Nat}
    (F : Fr h₀ L h' m) (N : News h₀ L h' all) (sub : ∀ p ∈ led, p ∈ all) (r : ok = b) : TestEnd h₀ L m led b s ok { s with heap := h', toks := tk' } :=
  ⟨h', tk', rfl, F, fun p hp => N p (sub p hp), r⟩
def RelL (R : Nat → Value → Prop) (zs : List Value) : Prop := ∀ j, j < zs.length → ∃ v, zs[j]? = some v ∧ R j v
theorem RelL.snoc {R : Nat → Value → Prop} {zs : List Value} {y : Value} (h : RelL R zs) (r : R zs.length y) : RelL R (zs ++ [y]) := by
  intro j hj
  rw [List.length_append, List.length_singleton] at hj
  by_cases e : j < zs.length
  · obtain ⟨v, e1, e2⟩ := h j e
    exact ⟨v, by rw [List.getElem?_append_left e]; exact e1, e2⟩
  · obtain rfl : j = zs.length := by omega
    exact ⟨y, by simp, r⟩
section
variable {prog : Program} {w : World} {A : Around} {h₀ : Heap} {L : Addr} {m : Str → Option Value} {env : Env} {elt ct : PySem.Expr} {x : Str} {scope : Scope} {cl : List (Str × Addr)} {s : Shared} {S : List (Addr × Obj) → Prop} {P : Nat → Value → Prop} {Fin : List Value → List (Addr × Obj) → Prop} {news : List (Addr × Obj)} {n : Nat}
open LCg LCt PySem.Calls
theorem rest_rel_go (R : Nat → Value → Prop) (hS : S news)
    (step : ∀ i ys v I oI C oC D m₂ h tk (E' : Value → Shared → Prop), i < n → ys.length = i → P i v → NsObj oC m₂ → m₂ x = some v → Fr h₀ L h m → News h₀ L h ((I, oI) :: (C, oC) :: (D, lst ys) :: news) → Off3 I C D news → ((@Ne Nat I C) ∧ (@Ne Nat I D) ∧ (@Ne Nat C D)) →
      wpAny (model prog w) A (eval elt (compEnvC scope cl C env)) (EltEnd h₀ L m ((I, oI) :: (C, oC) :: (D, lst ys) :: news) (R i) { s with heap := h, toks := tk }) E' { s with heap := h, toks := tk })
    (fin : ∀ zs, zs.length = n → RelL R zs → Fin zs news) :
    ∀ k i ys, i + k = n → ys.length = i → RelL R ys → CompRest prog w A h₀ L m env elt x scope cl s S P Fin k i ys news
  | 0, i, ys, hik, hys, hr => CompRest.zero (fin ys (by omega) hr)
  | k + 1, i, ys, hik, hys, hr => CompRest.succ fun v I oI C oC D m₂ h tk E' hP hC hx F N off ne =>
    wpAny_mono (step i ys v I oI C oC D m₂ h tk E' (by omega) hys hP hC hx F N off ne) (fun y s' ⟨h', tk', e, F', N', r⟩ => by
      subst e
      exact ⟨h', tk', news, rfl, F', N', off, hS, rest_rel_go R hS step fin k (i + 1) (ys ++ [y]) (by omega) (by rw [List.length_append, List.length_singleton, hys]) (hr.snoc (by rw [hys]; exact r))⟩) fun _ _ e => e
theorem rest_rel (R : Nat → Value → Prop) (hS : S news)
    (fin : ∀ zs, zs.length = n → RelL R zs → Fin zs news)
    (step : ∀ i ys v I oI C oC D m₂ h tk (E' : Value → Shared → Prop), i < n → ys.length = i → P i v → NsObj oC m₂ → m₂ x = some v → Fr h₀ L h m → News h₀ L h ((I, oI) :: (C, oC) :: (D, lst ys) :: news) → Off3 I C D news → ((@Ne Nat I C) ∧ (@Ne Nat I D) ∧ (@Ne Nat C D)) →
      wpAny (model prog w) A (eval elt (compEnvC scope cl C env)) (EltEnd h₀ L m ((I, oI) :: (C, oC) :: (D, lst ys) :: news) (R i) { s with heap := h, toks := tk }) E' { s with heap := h, toks := tk }) :
    CompRest prog w A h₀ L m env elt x scope cl s S P Fin n 0 [] news :=
  rest_rel_go R hS step fin n 0 [] (by omega) rfl (fun j hj => absurd hj (Nat.not_lt_zero _))
/-- with one test: the values for which b holds, in their order -/
theorem rest_filt_go (R : Nat → Value → Prop) (b : Nat → Bool) (hS : S news)
    (test : ∀ i ys v I oI C oC D m₂ h tk (E' : Value → Shared → Prop), i < n → P i v → NsObj oC m₂ → m₂ x = some v → Fr h₀ L h m → News h₀ L h ((I, oI) :: (C, oC) :: (D, lst ys) :: news) → Off3 I C D news → ((@Ne Nat I C) ∧ (@Ne Nat I D) ∧ (@Ne Nat C D)) →
      wpAny (model prog w) A (isTrue ct (compEnvC scope cl C env) (eval ct (compEnvC scope cl C env))) (TestEnd h₀ L m ((I, oI) :: (C, oC) :: (D, lst ys) :: news) (b i) { s with heap := h, toks := tk }) E' { s with heap := h, toks := tk })
    (step : ∀ i ys v I oI C oC D m₂ h tk (E' : Value → Shared → Prop), i < n → b i = true → P i v → NsObj oC m₂ → m₂ x = some v → Fr h₀ L h m → News h₀ L h ((I, oI) :: (C, oC) :: (D, lst ys) :: news) → Off3 I C D news → ((@Ne Nat I C) ∧ (@Ne Nat I D) ∧ (@Ne Nat C D)) →
      wpAny (model prog w) A (eval elt (compEnvC scope cl C env)) (EltEnd h₀ L m ((I, oI) :: (C, oC) :: (D, lst ys) :: news) (R i) { s with heap := h, toks := tk }) E' { s with heap := h, toks := tk })
    (fin : ∀ zs, RelL (fun j v => ∃ i, ((List.range n).filter b)[j]? = some i ∧ R i v) zs → zs.length = ((List.range n).filter b).length → Fin zs news) :
    ∀ k i ys, i + k = n → ys.length = ((List.range i).filter b).length → RelL (fun j v => ∃ i', ((List.range i).filter b)[j]? = some i' ∧ R i' v) ys → CompRestT prog w A h₀ L m env ct elt x scope cl s S P Fin k i ys news
  | 0, i, ys, hik, hys, hr => by
    obtain rfl : i = n := by omega
    exact CompRestT.zero (fin ys hr hys)
  | k + 1, i, ys, hik, hys, hr => CompRestT.succ fun v I oI C oC D m₂ h tk E' hP hC hx F N off ne => by
    refine wpAny_mono (test i ys v I oI C oC D m₂ h tk E' (by omega) hP hC hx F N off ne) (fun ok s' ⟨h', tk', e, F', N', r⟩ => ?_) fun _ _ e => e
    subst e
    by_cases hb : b i = true
    · rw [r, if_pos hb]
      refine wpAny_mono (step i ys v I oI C oC D m₂ h' tk' E' (by omega) hb hP hC hx F' N' off ne) (fun y s' ⟨h2, tk2, e, F2, N2, r2⟩ => ?_) fun _ _ e => e
      subst e
      refine ⟨h2, tk2, news, rfl, F2, N2, off, hS, rest_filt_go R b hS test step fin k (i + 1) (ys ++ [y]) (by omega) ?_ ?_⟩
      · rw [List.range_succ, List.filter_append, List.length_append, List.length_append, hys]
        simp [hb]
      · intro j hj
        rw [List.range_succ, List.filter_append]
        rw [List.length_append, List.length_singleton] at hj
        by_cases e : j < ys.length
        · obtain ⟨v', e1, i', e2, e3⟩ := hr j e
          exact ⟨v', by rw [List.getElem?_append_left e]; exact e1, i', by rw [List.getElem?_append_left (by omega)]; exact e2, e3⟩
        · obtain rfl : j = ys.length := by omega
          refine ⟨y, by simp, i, ?_, r2⟩
          rw [List.getElem?_append_right (by omega), hys, Nat.sub_self]
          simp [hb]
    · rw [r, if_neg hb]
      refine ⟨h', tk', news, rfl, F', N', off, hS, rest_filt_go R b hS test step fin k (i + 1) ys (by omega) ?_ ?_⟩
      · rw [List.range_succ, List.filter_append, List.length_append, hys]
        simp [hb]
      · rw [List.range_succ, List.filter_append]
        simpa [hb] using hr
theorem rest_filt (R : Nat → Value → Prop) (b : Nat → Bool) (hS : S news)
    (fin : ∀ zs, RelL (fun j v => ∃ i, ((List.range n).filter b)[j]? = some i ∧ R i v) zs → zs.length = ((List.range n).filter b).length → Fin zs news)
    (test : ∀ i ys v I oI C oC D m₂ h tk (E' : Value → Shared → Prop), i < n → P i v → NsObj oC m₂ → m₂ x = some v → Fr h₀ L h m → News h₀ L h ((I, oI) :: (C, oC) :: (D, lst ys) :: news) → Off3 I C D news → ((@Ne Nat I C) ∧ (@Ne Nat I D) ∧ (@Ne Nat C D)) →
      wpAny (model prog w) A (isTrue ct (compEnvC scope cl C env) (eval ct (compEnvC scope cl C env))) (TestEnd h₀ L m ((I, oI) :: (C, oC) :: (D, lst ys) :: news) (b i) { s with heap := h, toks := tk }) E' { s with heap := h, toks := tk })
    (step : ∀ i ys v I oI C oC D m₂ h tk (E' : Value → Shared → Prop), i < n → b i = true → P i v → NsObj oC m₂ → m₂ x = some v → Fr h₀ L h m → News h₀ L h ((I, oI) :: (C, oC) :: (D, lst ys) :: news) → Off3 I C D news → ((@Ne Nat I C) ∧ (@Ne Nat I D) ∧ (@Ne Nat C D)) →
      wpAny (model prog w) A (eval elt (compEnvC scope cl C env)) (EltEnd h₀ L m ((I, oI) :: (C, oC) :: (D, lst ys) :: news) (R i) { s with heap := h, toks := tk }) E' { s with heap := h, toks := tk }) :
    CompRestT prog w A h₀ L m env ct elt x scope cl s S P Fin n 0 [] news :=
  rest_filt_go R b hS test step fin n 0 [] (by omega) rfl (fun j hj => absurd hj (Nat.not_lt_zero _))
end
theorem relL_ints : ∀ {zs : List Value} {ns : List Int}, zs.length = ns.length → RelL (fun j v => ∃ t, v = .int (ns.getD j 0) t) zs → IntsAre zs ns
  | [], [], _, _ => .nil
  | z :: zs, a :: ns, hl, h => by
    obtain ⟨v, e, t, rfl⟩ := h 0 (by simp)
    have e' : z = .int a t := by simpa using e
    subst e'
    refine .cons a t (relL_ints (by simpa using hl) fun j hj => ?_)
    obtain ⟨v, e, r⟩ := h (j + 1) (by simpa using hj)
    exact ⟨v, by simpa using e, by simpa using r⟩
section
variable {prog : Program} {w : World} {A : Around} {h₀ : Heap} {L : Addr} {m : Str → Option Value} {env : Env} {elt : PySem.Expr} {x : Str} {scope : Scope} {cl : List (Str × Addr)} {s : Shared} {S : List (Addr × Obj) → Prop} {P : Nat → Value → Prop} {Fin : List Value → List (Addr × Obj) → Prop} {news : List (Addr × Obj)} {n : Nat}
open LCg PySem.Calls
/-- a comprehension whose ledger grows -/
theorem rest_led (Inv : Nat → List Value → List (Addr × Obj) → Prop) (fin : ∀ ys nw, Inv n ys nw → Fin ys nw)
    (step : ∀ i ys nw v I oI C oC D m₂ h tk (E' : Value → Shared → Prop), i < n → Inv i ys nw → P i v → NsObj oC m₂ → m₂ x = some v → Fr h₀ L h m → News h₀ L h ((I, oI) :: (C, oC) :: (D, lst ys) :: nw) → Off3 I C D nw → ((@Ne Nat I C) ∧ (@Ne Nat I D) ∧ (@Ne Nat C D)) →
      wpAny (model prog w) A (eval elt (compEnvC scope cl C env)) (CompEnd h₀ L m { s with heap := h, toks := tk } I oI C oC D (lst ys) S (fun y nw' => Inv (i + 1) (ys ++ [y]) nw')) E' { s with heap := h, toks := tk }) :
    ∀ k i ys nw, i + k = n → Inv i ys nw → CompRest prog w A h₀ L m env elt x scope cl s S P Fin k i ys nw
  | 0, i, ys, nw, hik, h => CompRest.zero (fin ys nw (by rw [← hik]; exact h))
  | k + 1, i, ys, nw, hik, hI => CompRest.succ fun v I oI C oC D m₂ h tk E' hP hC hx F N off ne =>
    wpAny_mono (step i ys nw v I oI C oC D m₂ h tk E' (by omega) hI hP hC hx F N off ne) (fun y s' ⟨h', tk', nw', e, F', N', off', hS', r⟩ =>
      ⟨h', tk', nw', e, F', N', off', hS', rest_led Inv fin step k (i + 1) (ys ++ [y]) nw' (by omega) r⟩) fun _ _ e => e
end

def dflt8 : List Int := [12, 7, 9, 2, 15, 7, 8, 10]
def scr8 (sc : List Int) : List Int := sc.take 8 ++ dflt8.drop (sc.take 8).length
theorem slice_from {prog : Program} {w : World} {A : Around} {E : Value → Shared → Prop} {s : Shared} {h₀ : Heap} {L l : Addr} {m : Str → Option Value} {news : List (Addr × Obj)} {es : List PySem.Expr} {e : PySem.Expr} {p1 p2 : Pos} {vs : List Value} {ns : List Int} {n : Nat} {k : Nat} {t : Tok} {Q : Value → Shared → Prop}
    (F : Fr h₀ L s.heap m) (N : News h₀ L s.heap news) (hm : (l, listOf vs.toArray n) ∈ news) (hi : IntsAre vs ns) (hz : vs.length ≤ 1000)
    (h : ∀ D ws h', Fr h₀ L h' m → News h₀ L h' ((D, listOf (List.toArray ws) 0) :: news) → (∀ p ∈ news, p.1 < D) → IntsAre ws (ns.drop k) → Q (.ref D) { s with heap := h' }) :
    wpAny (model prog w) A (subscriptTail (PySem.Expr.List es p1) (PySem.Expr.Slice (some e) none none p2) (.ref l) (.ref s.heap.objs.size)) Q E { s with heap := s.heap.push { cls := .type "slice", data := .fields #[.int (k : Int) t, .none, .none] } } := by
  refine kba_turn (value' := PySem.Expr.Name (PySem.Str.ofString "_") ⟨0, 0, 0, 0⟩) (fun _ => rfl) ?_
  have hm' := kmk_from (x := (k : Int)) hi (by omega)
  rw [Int.toNat_natCast] at hm'
  refine kmk_slice_ints (s := s) (lo := some (k : Int)) (hi := none) F N (PySem.IsL.isList (n := n) (N _ hm).1) (by constructor) (by constructor) hi hm' rfl (fun D ws h' F' N' l1 hI _ _ => h D ws h' F' N' l1 hI) ?s ?t ?z
  case s => with_unfolding_all rfl
  case t => exact fun _ => rfl
  case z => rw [List.size_toArray, sizeLine_eq]; omega
theorem ints_dflt (a b c d e f g h : Tok) : IntsAre [.int 12 a, .int 7 b, .int 9 c, .int 2 d, .int 15 e, .int 7 f, .int 8 g, .int 10 h] dflt8 := by
  unfold dflt8
  repeat constructor
theorem add_two {prog : Program} {w : World} {A : Around} {E : Value → Shared → Prop} {s : Shared} {h₀ : Heap} {L a b : Addr} {m : Str → Option Value} {news : List (Addr × Obj)} {vs ws : List Value} {ns ms : List Int} {n k : Nat} {Q : Value → Shared → Prop} (F : Fr h₀ L s.heap m) (N : News h₀ L s.heap news) (ha : (a, listOf vs.toArray n) ∈ news) (hb : (b, listOf ws.toArray k) ∈ news) (hi : IntsAre vs ns) (hj : IntsAre ws ms) (hz : ns.length + ms.length ≤ 1000)
    (h : ∀ D us h', Fr h₀ L h' m → News h₀ L h' ((D, listOf (List.toArray us) 0) :: news) → (∀ p ∈ news, p.1 < D) → IntsAre us (ns ++ ms) → Q (.ref D) { s with heap := h' }) : wpAny (model prog w) A (binaryOp .Add (.ref a) (.ref b)) Q E s :=
  kmk_add_ints F N (PySem.IsL.isList (n := n) (N _ ha).1) (PySem.IsL.isList (n := k) (N _ hb).1) hi hj h (by rw [sizeLine_eq]; omega)

theorem scr8_len (sc : List Int) : (List.take 8 sc ++ List.drop (List.take 8 sc).length dflt8).length = 8 := by
  simp only [List.length_append, List.length_drop, List.length_take, dflt8, List.length_cons, List.length_nil]; omega
theorem mods (xs : List Int) (h : xs.length = 8) : ∃ ds : List Nat, ds.length = 8 ∧ (∀ i, ds.getD i 0 < 16) ∧ ∀ i, xs.getD i 0 % 16 = ((ds.getD i 0 : Nat) : Int) := by
  refine ⟨xs.map fun a => (a % 16).toNat, by rw [List.length_map, h], fun i => ?_, fun i => ?_⟩
  · rw [List.getD_eq_getElem?_getD, List.getElem?_map]
    cases xs[i]? with
    | none => decide
    | some a => show (a % 16).toNat < 16; omega
  · rw [List.getD_eq_getElem?_getD, List.getD_eq_getElem?_getD, List.getElem?_map]
    cases xs[i]? with
    | none => rfl
    | some a => show a % 16 = (((a % 16).toNat : Nat) : Int); omega

theorem news_drop5 {h₀ h : Heap} {L : Addr} {a b c d e f : Addr × Obj} {r : List (Addr × Obj)} (N : News h₀ L h (a :: b :: c :: d :: e :: f :: r)) : News h₀ L h (a :: r) :=
  fun p hp => N p ((List.mem_cons.mp hp).elim (fun q => q ▸ .head _) fun q => .tail _ (.tail _ (.tail _ (.tail _ (.tail _ (.tail _ q))))))
theorem rel_nats {zs : List Value} {ds : List Nat} (hl : zs.length = ds.length) (h : RelL (fun i v => ∃ t, v = .int ((ds.getD i 0 : Nat) : Int) t) zs) : IntsAre zs (ds.map fun d : Nat => (d : Int)) := by
  refine relL_ints (by rw [List.length_map, hl]) fun j hj => ?_
  obtain ⟨v, e, t, r⟩ := h j hj
  refine ⟨v, e, t, ?_⟩
  rw [r, List.getD_eq_getElem?_getD, List.getD_eq_getElem?_getD, List.getElem?_map]
  cases ds[j]? <;> rfl

theorem ints_nums {zs : List Value} (hl : zs.length = 8) (h : RelL (fun i v => ∃ t, v = .int (num i) t) zs) : IntsAre zs nums := by
  refine relL_ints (by rw [hl]; rfl) fun j hj => ?_
  obtain ⟨v, e, t, r⟩ := h j hj
  exact ⟨v, e, t, by rw [r, nums_at (by omega)]⟩

theorem num_fd : ∀ i : Nat, i < 8 → 309 + 256 * (0 + (i : Int)).fdiv 4 + 16 * ((0 + (i : Int)).fdiv 2).fmod 2 + (0 + (i : Int)).fmod 2 = num i := by decide +kernel
theorem lst_at {R : Nat → Value → Prop} {zs : List Value} (h : RelL R zs) {i : Nat} {v : Value} (e : zs.toArray[i]? = some v) : R i v := by
  rw [List.getElem?_toArray] at e
  obtain ⟨hj, _⟩ := List.getElem?_eq_some_iff.mp e
  obtain ⟨v', e', r⟩ := h i hj
  rw [e] at e'
  cases e'
  exact r

section
open PySem.Builtin PySem.Calls
theorem args_dec2 (a b : Value) : argsOk "bytes.decode" ⟨[a, b], []⟩ := by
  unfold argsOk; rw [signature?_of (id := "bytes.decode") (n := ['e', 'd', 'o', 'c', 'e', 'd']) (o := ['s', 'e', 't', 'y', 'b']) (by kernel_rfl) FB.owner_bytes]; kernel_rfl
variable {b : Array UInt8} {c : UInt8} {cs : List UInt8} {t t2 : Tok} {x : PySem.Str} {n : Nat}
theorem road_ascii {id : String} : _codecs.decodeRoad id b (PySem.Str.ofString "ascii") none [] = (_codecs.runDecoder id _codecs.asciiDecoder none true b 0 [] >>= fun r => mkStr ⟨r.1⟩) := by kernel_rfl
theorem meets_text_a {t1 t2 : Tok} {d : PySem.Str} (hd : ∀ id, _codecs.runDecoder id _codecs.asciiDecoder none true b 0 [] = pure (x.cps, n)) :
    Meets («_codecs.decode.text» ⟨[.bytes b t, .str (PySem.Str.ofString "ascii") t1, .none, .str d t2], []⟩) (fun _ R s => x.length ≤ sizeLine ∧ R (.ok (.ret (.str x s.toks))) { s with toks := s.toks + 1 }) := by
  refine .of_wp fun prog w A R s hS => ?_
  obtain ⟨hsz, h⟩ := hS
  show wpAny _ _ (Bytes.bytesLike _ (.bytes b t) >>= fun r => _) _ _ s
  refine wpAny_bind (wpAny_of_eq KBd.like_eq ?_)
  refine wpAny_bind (wpAny_of_eq KBd.held_eq ?_)
  show wpAny _ _ (_codecs.decodeRoad _ b (PySem.Str.ofString "ascii") none [] >>= fun v => _) _ _ s
  rw [road_ascii, hd]
  refine wpAny_bind (wpAny_bind (wpAny_pure ?_))
  exact wpAny_mkStr (wpAny_pure ⟨_, rfl, h⟩) hsz
theorem entry_eq_a : «bytes.decode» ⟨[.bytes (c :: cs).toArray t, .str (PySem.Str.ofString "ascii") t2], []⟩ = (mkStr (PySem.Str.ofString "utf-8") >>= fun _ => mkStr (PySem.Str.ofString "ascii") >>= fun e => mkStr (PySem.Str.ofString "bytes.decode") >>= fun d =>
    call (.builtin "_codecs.decode.text") [.bytes (c :: cs).toArray t, e, .none, d] >>= fun v => ret v) := by kernel_rfl
theorem meets_decode_a (hd : ∀ id, _codecs.runDecoder id _codecs.asciiDecoder none true (c :: cs).toArray 0 [] = pure (x.cps, n)) :
    Meets («bytes.decode» ⟨[.bytes (c :: cs).toArray t, .str (PySem.Str.ofString "ascii") t2], []⟩) (fun _ R s => x.length ≤ sizeLine ∧ ∀ t' k, R (.ok (.ret (.str x t'))) { s with toks := k }) := by
  refine .of_wp fun prog w A R s hS => ?_
  obtain ⟨hsz, h⟩ := hS
  rw [entry_eq_a]
  refine wpAny_bind (wpAny_mkStr ?_ (by decide))
  refine wpAny_bind (wpAny_mkStr ?_ (by decide))
  refine wpAny_bind (wpAny_mkStr ?_ (by decide))
  exact wpAny_bind (call_function_meets KBd.kind_text KBd.plain_text KBd.entry_text (KBd.args_text _ _ _ _) (meets_text_a hd) ⟨hsz, wpAny_pure ⟨_, rfl, h _ _⟩⟩)
variable {prog : Program} {w : World} {A : Around} {E : Value → Shared → Prop} {s : Shared}
theorem decode_a {Q : Value → Shared → Prop} (hd : ∀ id, _codecs.runDecoder id _codecs.asciiDecoder none true (c :: cs).toArray 0 [] = pure (x.cps, n)) (hsz : x.length ≤ 16777216) (h : ∀ t' k, Q (.str x t') { s with toks := k }) :
    wpAny (model prog w) A (call (.builtin "bytes.decode") [.bytes (c :: cs).toArray t, .str (PySem.Str.ofString "ascii") t2]) Q E s :=
  call_meets FB.slot_bytes_decode (typeIs_bytes _ _ _) FB.entry_bytes_decode (args_dec2 _ _) (meets_decode_a hd) ⟨by rw [sizeLine_eq]; exact hsz, h⟩
theorem dec_word (z : Nat) (hz : z < 8) : ∀ id, _codecs.runDecoder id _codecs.asciiDecoder none true (wordB z) 0 [] = pure ((sub z 0 3).cps, 3) := by
  intro id
  match z, hz with
  | 0, _ => kernel_rfl
  | 1, _ => kernel_rfl
  | 2, _ => kernel_rfl
  | 3, _ => kernel_rfl
  | 4, _ => kernel_rfl
  | 5, _ => kernel_rfl
  | 6, _ => kernel_rfl
  | 7, _ => kernel_rfl
  | z + 8, h => exact absurd h (by omega)
theorem decode_word {Q : Value → Shared → Prop} {z : Nat} (hz : z < 8) (h : ∀ t' k, Q (.str (sub z 0 3) t') { s with toks := k }) :
    wpAny (model prog w) A (call (.builtin "bytes.decode") [.bytes (wordB z) t, .str (PySem.Str.ofString "ascii") t2]) Q E s :=
  decode_a (n := 3) (dec_word z hz) (by rw [F3 z hz 0 (by decide) 3 (by decide)]; decide) h
end

section
open PySem.Calls LCg
variable {prog : Program} {w : World} {A : Around}
/-- one clause's turns, whatever a turn does inside -/
theorem loopK {elt : PySem.Expr} {gens : List Comprehension} {scope : Scope} {pos : Pos} {k : Nat} {I : Addr} {acc : Value} {env : Env} {target : PySem.Expr} {ip : Pos} {body : Sem Fin} {R : Result → Shared → Prop} {n : Nat} {P : Nat → Value → Prop} {St : Nat → Heap → Prop} {s : Shared}
    (ht : compTurn (.ListComp elt gens scope pos) k (.ref I) acc env = (standAt ip >>= fun _ => pyNext (.ref I) >>= fun r => match r with
      | none => pure (.done .next)
      | some v => letOwnedTupleGo target (.ref I) v >>= fun _ => assign target env v >>= fun _ => body))
    (hl : ∀ v, letOwnedTupleGo target (.ref I) v = pure ())
    (W : Walks prog w A I [I] [I] n P St) (Inv : Nat → Shared → Prop)
    (step : ∀ i s E', i < n → Inv i s → St i s.heap ∧ ∀ v h' tk, P i v → St (i + 1) h' → (∀ b o, b ≠ I → s.heap.get? b = some o → h'.get? b = some o) →
      wpAny (model prog w) A (assign target env v) (fun _ s₂ => wpAny (model prog w) A body (fun f s₃ => f = .again (.compLoop (.ListComp elt gens scope pos) k (.ref I) acc env) ∧ Inv (i + 1) s₃) E' s₂) E' { s with heap := h', toks := tk })
    (done : ∀ s, Inv n s → St n s.heap ∧ ∀ h' tk, (∀ b o, b ≠ I → s.heap.get? b = some o → h'.get? b = some o) → R (.ok .next) { s with heap := h', toks := tk })
    (h : Inv 0 s) : codeAny (model prog w) A (.compLoop (.ListComp elt gens scope pos) k (.ref I) acc env) R s := by
  refine codeAny_loop rfl (fun j s' => ∃ i, i ≤ n ∧ j = n - i ∧ Inv i s') (fun j s' hI => ?_) n ⟨0, Nat.zero_le _, rfl, h⟩
  obtain ⟨i, hi, hj, hv⟩ := hI
  show wpAny _ A ((compTurn (.ListComp elt gens scope pos) k (.ref I) acc env).onRaise (fun x => do noteFrame x env; theTreesLotGoes x)) _ _ s'
  refine wpAny_noted ?_
  rw [ht]
  refine wpAny_bind (wpAny_standAt (wpAny_bind ?_))
  by_cases hlt : i < n
  · obtain ⟨st, go⟩ := step i s' (notedBy (model prog w) A env fun e s' => R (.error e) s') hlt hv
    refine W.item i _ _ _ hlt st fun v h' tk hP st' hk => ?_
    refine wpAny_bind (wpAny_of_eq (hl v) ?_)
    refine wpAny_bind (wpAny_mono (go v h' tk hP st' fun b o hb e => hk b o (by simpa using hb) e) (fun _ s₂ h₂ => wpAny_mono h₂ (fun f s₃ h₃ => ?_) fun _ _ x => x) fun _ _ x => x)
    obtain ⟨rfl, h₃⟩ := h₃
    exact ⟨rfl, n - (i + 1), by omega, i + 1, hlt, rfl, h₃⟩
  · obtain rfl : i = n := by omega
    obtain ⟨st, go⟩ := done s' hv
    refine W.done _ _ _ st fun h' tk hk => ?_
    exact wpAny_pure (go h' tk fun b o hb e => hk b o (by simpa using hb) e)
section
variable {elt i0 i1 i2 : PySem.Expr} {t0 t1 t2 : PySem.Expr} {scope : Scope} {pos : Pos} {it acc : Value} {env : Env}
def goIn (e : PySem.Expr) (k : Nat) (i : PySem.Expr) (it acc : Value) (env : Env) : Sem Fin :=
  eval i env >>= fun x => standAt i.pos >>= fun _ => foldedSetIterable i env x >>= fun x => holding [x] (pyIter x) >>= fun it' => runOwn (.compStart e (k + 1) it' acc env) env >>= fun _ => again (.compLoop e k it acc env)
theorem turn0 : compTurn (.ListComp elt [⟨t0, i0, [], 0⟩, ⟨t1, i1, [], 0⟩, ⟨t2, i2, [], 0⟩] scope pos) 0 it acc env = (standAt i0.pos >>= fun _ => pyNext it >>= fun r => match r with
      | none => pure (.done .next)
      | some v => letOwnedTupleGo t0 it v >>= fun _ => assign t0 env v >>= fun _ => goIn (.ListComp elt [⟨t0, i0, [], 0⟩, ⟨t1, i1, [], 0⟩, ⟨t2, i2, [], 0⟩] scope pos) 0 i1 it acc env) := by rfl
theorem turn1 : compTurn (.ListComp elt [⟨t0, i0, [], 0⟩, ⟨t1, i1, [], 0⟩, ⟨t2, i2, [], 0⟩] scope pos) 1 it acc env = (standAt i1.pos >>= fun _ => pyNext it >>= fun r => match r with
      | none => pure (.done .next)
      | some v => letOwnedTupleGo t1 it v >>= fun _ => assign t1 env v >>= fun _ => goIn (.ListComp elt [⟨t0, i0, [], 0⟩, ⟨t1, i1, [], 0⟩, ⟨t2, i2, [], 0⟩] scope pos) 1 i2 it acc env) := by rfl
theorem turn2 : compTurn (.ListComp elt [⟨t0, i0, [], 0⟩, ⟨t1, i1, [], 0⟩, ⟨t2, i2, [], 0⟩] scope pos) 2 it acc env = (standAt i2.pos >>= fun _ => pyNext it >>= fun r => match r with
      | none => pure (.done .next)
      | some v => letOwnedTupleGo t2 it v >>= fun _ => assign t2 env v >>= fun _ => (eval elt env >>= fun x => call (.builtin "list.append") [acc, x] >>= fun _ => pure ()) >>= fun _ => again (.compLoop (.ListComp elt [⟨t0, i0, [], 0⟩, ⟨t1, i1, [], 0⟩, ⟨t2, i2, [], 0⟩] scope pos) 2 it acc env)) := by rfl
theorem start1 {R : Result → Shared → Prop} {s : Shared}
    (h0 : codeAny (model prog w) A (.compLoop (.ListComp elt [⟨t0, i0, [], 0⟩, ⟨t1, i1, [], 0⟩, ⟨t2, i2, [], 0⟩] scope pos) 1 it acc env) R s)
    (h : wpAny (model prog w) A (pyIter it) (fun it' s' => codeAny (model prog w) A (.compLoop (.ListComp elt [⟨t0, i0, [], 0⟩, ⟨t1, i1, [], 0⟩, ⟨t2, i2, [], 0⟩] scope pos) 1 it' acc env) R s')
      (notedBy (model prog w) A env fun x s' => R (.error x) s') s) :
    codeAny (model prog w) A (.compStart (.ListComp elt [⟨t0, i0, [], 0⟩, ⟨t1, i1, [], 0⟩, ⟨t2, i2, [], 0⟩] scope pos) 1 it acc env) R s := by
  refine codeAny_of_tree ?_
  show wpAny _ A ((compStart (.ListComp elt [⟨t0, i0, [], 0⟩, ⟨t1, i1, [], 0⟩, ⟨t2, i2, [], 0⟩] scope pos) 1 it acc env).onRaise (fun x => do noteFrame x env; standAt theWindowsPlace)) _ _ s
  refine wpAny_notedAt ?_
  unfold compStart
  show wpAny _ A (ask >>= _) _ _ s
  refine wpAny_bind (wpAny_askSetting (wpAny_ite ?_))
  split
  · first
      | exact wpAny_bind (wpAny_pure (wpAny_pure (And.intro rfl h0)))
      | exact wpAny_pure (And.intro rfl h0)
  · refine wpAny_bind (wpAny_rule ?_); show wpAny _ A (standAt i1.pos >>= _) _ _ s; exact wpAny_bind (wpAny_standAt (wpAny_bind (wpAny_mono h (fun it' s' h' => wpAny_pure (And.intro rfl h')) fun _ _ x => x)))
theorem start2 {R : Result → Shared → Prop} {s : Shared}
    (h0 : codeAny (model prog w) A (.compLoop (.ListComp elt [⟨t0, i0, [], 0⟩, ⟨t1, i1, [], 0⟩, ⟨t2, i2, [], 0⟩] scope pos) 2 it acc env) R s)
    (h : wpAny (model prog w) A (pyIter it) (fun it' s' => codeAny (model prog w) A (.compLoop (.ListComp elt [⟨t0, i0, [], 0⟩, ⟨t1, i1, [], 0⟩, ⟨t2, i2, [], 0⟩] scope pos) 2 it' acc env) R s')
      (notedBy (model prog w) A env fun x s' => R (.error x) s') s) :
    codeAny (model prog w) A (.compStart (.ListComp elt [⟨t0, i0, [], 0⟩, ⟨t1, i1, [], 0⟩, ⟨t2, i2, [], 0⟩] scope pos) 2 it acc env) R s := by
  refine codeAny_of_tree ?_
  show wpAny _ A ((compStart (.ListComp elt [⟨t0, i0, [], 0⟩, ⟨t1, i1, [], 0⟩, ⟨t2, i2, [], 0⟩] scope pos) 2 it acc env).onRaise (fun x => do noteFrame x env; standAt theWindowsPlace)) _ _ s
  refine wpAny_notedAt ?_
  unfold compStart
  show wpAny _ A (ask >>= _) _ _ s
  refine wpAny_bind (wpAny_askSetting (wpAny_ite ?_))
  split
  · first
      | exact wpAny_bind (wpAny_pure (wpAny_pure (And.intro rfl h0)))
      | exact wpAny_pure (And.intro rfl h0)
  · refine wpAny_bind (wpAny_rule ?_); show wpAny _ A (standAt i2.pos >>= _) _ _ s; exact wpAny_bind (wpAny_standAt (wpAny_bind (wpAny_mono h (fun it' s' h' => wpAny_pure (And.intro rfl h')) fun _ _ x => x)))
end
theorem goIn_str {e : PySem.Expr} {k : Nat} {x : Str} {kk : Nat} {p : Pos} {it acc : Value} {env : Env} {s : Shared} {Q : Fin → Shared → Prop} {E : Value → Shared → Prop} (hh : A.handled = none) (ha : x.cps.all (· < 128) = true)
    (start : ∀ (it' : Value) (R : Result → Shared → Prop) (s : Shared), codeAny (model prog w) A (.compLoop e (k + 1) it' acc env) R s → wpAny (model prog w) A (pyIter it') (fun it'' s' => codeAny (model prog w) A (.compLoop e (k + 1) it'' acc env) R s') (notedBy (model prog w) A env fun x s' => R (.error x) s') s → codeAny (model prog w) A (.compStart e (k + 1) it' acc env) R s)
    (h : ∀ (I : Addr) (St : Nat → Heap → Prop) (o : Obj) (R : Result → Shared → Prop), I = s.heap.objs.size → Walks prog w A I [I] [I] x.cps.size (SignAt x) St → (∀ i h, St i h → ∃ o, h.get? I = some o) → St 0 (s.heap.push o) → (∀ f s', Q (.again (.compLoop e k it acc env)) s' → R (.ok f) s') →
      codeAny (model prog w) A (.compLoop e (k + 1) (.ref I) acc env) R { s with heap := s.heap.push o, toks := s.toks + 1 })
    (hf : ∀ v, foldedSetIterable (.Constant (.str x) kk p) env v = pure v := by intro _; rfl) :
    wpAny (model prog w) A (goIn e k (.Constant (.str x) kk p) it acc env) Q E s := by
  unfold goIn
  refine wpAny_bind (wpAny_Constant_str (wpAny_bind (wpAny_standAt (wpAny_bind (wpAny_of_eq (hf _) (wpAny_bind (wpAny_holding ?_)))))))
  refine wpAny_pyIter_ascii ha ?_
  refine wpAny_bind (wpAny_runOwn (h := none) ?_)
  show codeAny _ A _ _ _
  have W := Walks.strAscii (prog := prog) (w := w) hh s.heap.objs.size x s.toks
  have hIo : ∀ i (h : Heap), h.IsStrIter s.heap.objs.size "str_ascii_iterator" x s.toks i → ∃ o, h.get? s.heap.objs.size = some o := fun i h st => let ⟨o, ho, _⟩ := st; ⟨o, ho⟩
  have hst : (s.heap.push { cls := .type "str_ascii_iterator", data := .fields #[.str x s.toks, .int 0 0] }).IsStrIter s.heap.objs.size "str_ascii_iterator" x s.toks 0 := ⟨_, Heap.get?_push_size _ rfl, rfl, rfl⟩
  have hR := fun (f : Flow) s' (q : Q (.again (.compLoop e k it acc env)) s') => (show (fun (r : Result) s' => match r with | .ok f => (fun _ s'' => wpAny (model prog w) A (again (.compLoop e k it acc env)) Q E s'') f s' | .error e => cameBackBy (model prog w) A env E e s') (.ok f) s' from wpAny_pure q)
  exact start _ _ _ (h _ _ _ _ rfl W hIo hst hR) (W.self 0 _ _ _ hst (h _ _ _ _ rfl W hIo hst hR))
section
variable {elt : PySem.Expr} {a b c : Str} {pa pb pc : Pos} {x0 x1 x2 : Str} {k0 k1 k2 : Nat} {q0 q1 q2 : Pos} {scope : Scope} {pos : Pos} {env : Env} {r : Nat → Nat → Nat → Str} {s : Shared} {C D : Addr}
structure Ok3 (prog : Program) (w : World) (A : Around) (elt : PySem.Expr) (a b c : Str) (env : Env) (r : Nat → Nat → Nat → Str) (s : Shared) (C D : Addr) : Prop where
  hh : A.handled = none
  hC : env.locals = C
  ka : env.kindOf a = some .local
  kb : env.kindOf b = some .local
  kc : env.kindOf c = some .local
  hp : (env.scope.kind == .class || (env.scope.kind == .module && env.locals != env.globals)) = false
  ab : a ≠ b
  ac : a ≠ c
  bc : b ≠ c
  CD : C ≠ D
  elt : ∀ c0 c1 c2 u0 u1 u2 m h tk (E' : Value → Shared → Prop), h.Ns C m → m a = some (.str ⟨#[c0]⟩ u0) → m b = some (.str ⟨#[c1]⟩ u1) → m c = some (.str ⟨#[c2]⟩ u2) →
    wpAny (model prog w) A (eval elt env) (fun y s' => ∃ t tk', y = .str (r c0 c1 c2) t ∧ s' = { s with heap := h, toks := tk' }) E' { s with heap := h, toks := tk }
theorem strs_app : ∀ {zs ws : List Value} {xs ys : List Str}, StrsAre zs xs → StrsAre ws ys → StrsAre (zs ++ ws) (xs ++ ys)
  | _, _, _, _, .nil, h => h
  | _, _, _, _, .cons y t g, h => .cons y t (strs_app g h)
theorem strs_len : ∀ {zs : List Value} {xs : List Str}, StrsAre zs xs → zs.length = xs.length
  | _, _, .nil => rfl
  | _, _, .cons _ _ g => by simp [strs_len g]
theorem take_at {α : Type} {l : Array α} {i : Nat} {v : α} (h : l[i]? = some v) : l.toList.take (i + 1) = l.toList.take i ++ [v] := by
  rw [List.take_add_one, Array.getElem?_toList, h]; rfl
theorem take_all {α : Type} {l : Array α} : l.toList.take l.size = l.toList := by
  rw [← Array.length_toList, List.take_length]

theorem lev2 {R : Result → Shared → Prop} {I : Addr} {St : Nat → Heap → Prop} {h : Heap} {tk : Nat} {m : Str → Option Value} {ys : List Value} {c0 c1 : Nat} {u0 u1 : Tok} (K : Ok3 prog w A elt a b c env r s C D)
    (W : Walks prog w A I [I] [I] x2.cps.size (SignAt x2) St) (hst : St 0 h) (hn : h.Ns C m) (ma : m a = some (.str ⟨#[c0]⟩ u0)) (mb : m b = some (.str ⟨#[c1]⟩ u1)) (hD : h.get? D = some (lst ys)) (hsz : ys.length + x2.cps.size ≤ sizeLine) (CI : C ≠ I) (DI : D ≠ I)
    (hR : ∀ h' tk' m' zs, h'.Ns C m' → m' a = some (.str ⟨#[c0]⟩ u0) → m' b = some (.str ⟨#[c1]⟩ u1) → h'.get? D = some (lst (ys ++ zs)) → StrsAre zs (x2.cps.toList.map (r c0 c1)) → (∀ p o, p ≠ C → p ≠ D → p ≠ I → h.get? p = some o → h'.get? p = some o) → R (.ok .next) { s with heap := h', toks := tk' }) :
    codeAny (model prog w) A (.compLoop (.ListComp elt [⟨.Name a pa, .Constant (.str x0) k0 q0, [], 0⟩, ⟨.Name b pb, .Constant (.str x1) k1 q1, [], 0⟩, ⟨.Name c pc, .Constant (.str x2) k2 q2, [], 0⟩] scope pos) 2 (.ref I) (.ref D) env) R { s with heap := h, toks := tk } := by
  obtain ⟨hh, hC, ka, kb, kc, hp, ab, ac, bc, CD, hel⟩ := K
  subst hC
  refine loopK turn2 (fun _ => rfl) W (fun i s' => ∃ h' tk' m' zs, s' = { s with heap := h', toks := tk' } ∧ St i h' ∧ h'.Ns env.locals m' ∧ m' a = some (.str ⟨#[c0]⟩ u0) ∧ m' b = some (.str ⟨#[c1]⟩ u1) ∧ h'.get? D = some (lst (ys ++ zs)) ∧ i ≤ x2.cps.size ∧ StrsAre zs ((x2.cps.toList.take i).map (r c0 c1)) ∧
    (∀ p o, p ≠ env.locals → p ≠ D → p ≠ I → h.get? p = some o → h'.get? p = some o)) ?_ ?_ ⟨h, tk, m, [], rfl, hst, hn, ma, mb, by rw [List.append_nil]; exact hD, Nat.zero_le _, by simpa using StrsAre.nil, fun _ _ _ _ _ e => e⟩
  · rintro i s' E' hi ⟨h', tk', m', zs, rfl, st, hn', ma', mb', hD', hi', hz, hk⟩
    refine ⟨st, fun v h₂ tk₂ hP st₂ hk₂ => ?_⟩
    obtain ⟨c2, u2, hc, rfl⟩ := hP
    refine wpAny_assign_Name (wpAny_storeName_local kc (hn'.at' fun o e => hk₂ _ o CI e) (fun h₃ hn₃ hs₃ => ?_) hp)
    have hD₃ : h₃.get? D = some (lst (ys ++ zs)) := hs₃.extBut _ _ (Ne.symm CD) (hk₂ _ _ DI hD')
    refine wpAny_bind (wpAny_bind (wpAny_mono (hel c0 c1 c2 u0 u1 u2 _ h₃ _ E' hn₃ (by simp [ac, ma']) (by simp [bc, mb']) (by simp)) (fun y s₄ h₄ => ?_) fun _ _ x => x))
    obtain ⟨t, tk₄, rfl, rfl⟩ := h₄
    have hzl := strs_len hz
    rw [List.length_map, List.length_take] at hzl
    refine wpAny_bind (append_at (hsz := by rw [List.size_toArray, List.length_append, hzl]; omega) hD₃ fun h₅ hs₅ hD₅ => wpAny_pure (wpAny_pure ⟨rfl, h₅, tk₄, _, zs ++ [.str (r c0 c1 c2) t], rfl, ?_, hn₃.sameBut hs₅ CD, by simp [ac, ma'], by simp [bc, mb'], ?_, hi, ?_, ?_⟩))
    · exact W.frame _ _ _ st₂ fun q hq o e => by
        rw [List.mem_singleton.mp hq] at e ⊢
        exact hs₅.extBut _ _ (Ne.symm DI) (hs₃.extBut _ _ (Ne.symm CI) e)
    · rw [hD₅, lst_snoc, List.append_assoc]
    · rw [take_at hc, List.map_append]
      exact strs_app hz (.cons _ t .nil)
    · exact fun p o hpC hpD hpI e => hs₅.extBut _ _ hpD (hs₃.extBut _ _ hpC (hk₂ _ _ hpI (hk p o hpC hpD hpI e)))
  · rintro s' ⟨h', tk', m', zs, rfl, st, hn', ma', mb', hD', hi', hz, hk⟩
    refine ⟨st, fun h₂ tk₂ hk₂ => hR h₂ tk₂ m' zs (hn'.at' fun o e => hk₂ _ o CI e) ma' mb' (hk₂ _ _ DI hD') (by rw [take_all] at hz; exact hz) fun p o hpC hpD hpI e => hk₂ _ _ hpI (hk p o hpC hpD hpI e)⟩
theorem lev1 {R : Result → Shared → Prop} {I : Addr} {St : Nat → Heap → Prop} {h : Heap} {tk : Nat} {m : Str → Option Value} {ys : List Value} {c0 : Nat} {u0 : Tok} (K : Ok3 prog w A elt a b c env r s C D)
    (W : Walks prog w A I [I] [I] x1.cps.size (SignAt x1) St) (hst : St 0 h) (hn : h.Ns C m) (ma : m a = some (.str ⟨#[c0]⟩ u0)) (hD : h.get? D = some (lst ys)) (hsz : ys.length + x1.cps.size * x2.cps.size ≤ sizeLine) (CI : C ≠ I) (DI : D ≠ I) (hIo : ∀ i h, St i h → ∃ o, h.get? I = some o) (ha2 : x2.cps.all (· < 128) = true)
    (hR : ∀ h' tk' m' zs, h'.Ns C m' → m' a = some (.str ⟨#[c0]⟩ u0) → h'.get? D = some (lst (ys ++ zs)) → StrsAre zs (x1.cps.toList.flatMap fun c1 => x2.cps.toList.map (r c0 c1)) → (∀ p o, p ≠ C → p ≠ D → p ≠ I → h.get? p = some o → h'.get? p = some o) → R (.ok .next) { s with heap := h', toks := tk' }) :
    codeAny (model prog w) A (.compLoop (.ListComp elt [⟨.Name a pa, .Constant (.str x0) k0 q0, [], 0⟩, ⟨.Name b pb, .Constant (.str x1) k1 q1, [], 0⟩, ⟨.Name c pc, .Constant (.str x2) k2 q2, [], 0⟩] scope pos) 1 (.ref I) (.ref D) env) R { s with heap := h, toks := tk } := by
  have K' := K
  obtain ⟨hh, hC, ka, kb, kc, hp, ab, ac, bc, CD, hel⟩ := K
  subst hC
  have hl : ∀ c1 : Nat, (x2.cps.toList.map (r c0 c1)).length = x2.cps.size := fun c1 => by rw [List.length_map, Array.length_toList]
  have hfl : ∀ l : List Nat, (l.flatMap fun c1 => x2.cps.toList.map (r c0 c1)).length = l.length * x2.cps.size := fun l => by
    induction l with
    | nil => simp
    | cons z l ih => rw [List.flatMap_cons, List.length_append, ih, hl, List.length_cons, Nat.succ_mul, Nat.add_comm]
  refine loopK turn1 (fun _ => rfl) W (fun i s' => ∃ h' tk' m' zs, s' = { s with heap := h', toks := tk' } ∧ St i h' ∧ h'.Ns env.locals m' ∧ m' a = some (.str ⟨#[c0]⟩ u0) ∧ h'.get? D = some (lst (ys ++ zs)) ∧ i ≤ x1.cps.size ∧ StrsAre zs ((x1.cps.toList.take i).flatMap fun c1 => x2.cps.toList.map (r c0 c1)) ∧
    (∀ p o, p ≠ env.locals → p ≠ D → p ≠ I → h.get? p = some o → h'.get? p = some o)) ?_ ?_ ⟨h, tk, m, [], rfl, hst, hn, ma, by rw [List.append_nil]; exact hD, Nat.zero_le _, by simpa using StrsAre.nil, fun _ _ _ _ _ e => e⟩
  · rintro i s' E' hi ⟨h', tk', m', zs, rfl, st, hn', ma', hD', hi', hz, hk⟩
    refine ⟨st, fun v h₂ tk₂ hP st₂ hk₂ => ?_⟩
    obtain ⟨c1, u1, hc, rfl⟩ := hP
    refine wpAny_assign_Name (wpAny_storeName_local kb (hn'.at' fun o e => hk₂ _ o CI e) (fun h₃ hn₃ hs₃ => ?_) hp)
    have hD₃ : h₃.get? D = some (lst (ys ++ zs)) := hs₃.extBut _ _ (Ne.symm CD) (hk₂ _ _ DI hD')
    have st₃ : St (i + 1) h₃ := W.frame _ _ _ st₂ fun q hq o e => by
      rw [List.mem_singleton.mp hq] at e ⊢
      exact hs₃.extBut _ _ (Ne.symm CI) e
    obtain ⟨oI, heI⟩ := hIo _ _ st₃
    have hzl : zs.length = i * x2.cps.size := by rw [strs_len hz, hfl, List.length_take, Array.length_toList, Nat.min_eq_left hi']
    have hmul : i * x2.cps.size + x2.cps.size ≤ x1.cps.size * x2.cps.size := by
      rw [← Nat.succ_mul]; exact Nat.mul_le_mul_right _ hi
    refine goIn_str hh ha2 (fun it' R s => start2) (fun I2 St2 o2 R2 hI2 W2 hIo2 hst2 hR2 => ?_)
    subst hI2
    have up : ∀ p o, h₃.get? p = some o → (h₃.push o2).get? p = some o := fun p o e => Heap.get?_push_of_some _ e
    have below : ∀ p o, h₃.get? p = some o → p ≠ h₃.objs.size := fun p o e => Nat.ne_of_lt (Heap.lt_size e)
    refine lev2 (s := s) (c0 := c0) (u0 := u0) (c1 := c1) (u1 := u1) K' W2 hst2 (hn₃.at' fun o e => up _ _ e) (by simp [ab, ma']) (by simp) (up _ _ hD₃) (by rw [List.length_append, hzl]; omega) (Nat.ne_of_lt hn₃.lt) (below _ _ hD₃) ?_
    intro h₅ tk₅ m₅ ws hn₅ ma₅ mb₅ hD₅ hw hk₅
    refine hR2 _ _ ⟨rfl, h₅, tk₅, m₅, zs ++ ws, rfl, ?_, hn₅, ma₅, by rw [← List.append_assoc]; exact hD₅, hi, ?_, ?_⟩
    · exact W.frame _ _ _ st₃ fun q hq o e => by
        rw [List.mem_singleton.mp hq] at e ⊢
        exact hk₅ _ _ (Ne.symm CI) (Ne.symm DI) (below _ _ e) (up _ _ e)
    · rw [take_at hc, List.flatMap_append]
      exact strs_app hz (by simpa using hw)
    · intro p o hpC hpD hpI e
      have e3 := hs₃.extBut _ _ hpC (hk₂ _ _ hpI (hk p o hpC hpD hpI e))
      exact hk₅ _ _ hpC hpD (below _ _ e3) (up _ _ e3)
  · rintro s' ⟨h', tk', m', zs, rfl, st, hn', ma', hD', hi', hz, hk⟩
    refine ⟨st, fun h₂ tk₂ hk₂ => hR h₂ tk₂ m' zs (hn'.at' fun o e => hk₂ _ o CI e) ma' (hk₂ _ _ DI hD') (by rw [take_all] at hz; exact hz) fun p o hpC hpD hpI e => hk₂ _ _ hpI (hk p o hpC hpD hpI e)⟩
theorem lev0 {R : Result → Shared → Prop} {I : Addr} {St : Nat → Heap → Prop} {h : Heap} {tk : Nat} {m : Str → Option Value} (K : Ok3 prog w A elt a b c env r s C D)
    (W : Walks prog w A I [I] [I] x0.cps.size (SignAt x0) St) (hst : St 0 h) (hn : h.Ns C m) (hD : h.get? D = some (lst [])) (hsz : x0.cps.size * (x1.cps.size * x2.cps.size) ≤ sizeLine) (CI : C ≠ I) (DI : D ≠ I) (hIo : ∀ i h, St i h → ∃ o, h.get? I = some o) (ha1 : x1.cps.all (· < 128) = true) (ha2 : x2.cps.all (· < 128) = true)
    (hR : ∀ h' tk' m' zs, h'.Ns C m' → h'.get? D = some (lst zs) → StrsAre zs (x0.cps.toList.flatMap fun c0 => x1.cps.toList.flatMap fun c1 => x2.cps.toList.map (r c0 c1)) → (∀ p o, p ≠ C → p ≠ D → p ≠ I → h.get? p = some o → h'.get? p = some o) → R (.ok .next) { s with heap := h', toks := tk' }) :
    codeAny (model prog w) A (.compLoop (.ListComp elt [⟨.Name a pa, .Constant (.str x0) k0 q0, [], 0⟩, ⟨.Name b pb, .Constant (.str x1) k1 q1, [], 0⟩, ⟨.Name c pc, .Constant (.str x2) k2 q2, [], 0⟩] scope pos) 0 (.ref I) (.ref D) env) R { s with heap := h, toks := tk } := by
  have K' := K
  obtain ⟨hh, hC, ka, kb, kc, hp, ab, ac, bc, CD, hel⟩ := K
  subst hC
  have hl : ∀ c0 c1 : Nat, (x2.cps.toList.map (r c0 c1)).length = x2.cps.size := fun c0 c1 => by rw [List.length_map, Array.length_toList]
  have hfl : ∀ (c0 : Nat) (l : List Nat), (l.flatMap fun c1 => x2.cps.toList.map (r c0 c1)).length = l.length * x2.cps.size := fun c0 l => by
    induction l with
    | nil => simp
    | cons z l ih => rw [List.flatMap_cons, List.length_append, ih, hl, List.length_cons, Nat.succ_mul, Nat.add_comm]
  have hgl : ∀ l : List Nat, (l.flatMap fun c0 => x1.cps.toList.flatMap fun c1 => x2.cps.toList.map (r c0 c1)).length = l.length * (x1.cps.size * x2.cps.size) := fun l => by
    induction l with
    | nil => simp
    | cons z l ih => rw [List.flatMap_cons, List.length_append, ih, hfl, List.length_cons, Array.length_toList, Nat.succ_mul]; exact Nat.add_comm _ _
  refine loopK turn0 (fun _ => rfl) W (fun i s' => ∃ h' tk' m' zs, s' = { s with heap := h', toks := tk' } ∧ St i h' ∧ h'.Ns env.locals m' ∧ h'.get? D = some (lst zs) ∧ i ≤ x0.cps.size ∧ StrsAre zs ((x0.cps.toList.take i).flatMap fun c0 => x1.cps.toList.flatMap fun c1 => x2.cps.toList.map (r c0 c1)) ∧
    (∀ p o, p ≠ env.locals → p ≠ D → p ≠ I → h.get? p = some o → h'.get? p = some o)) ?_ ?_ ⟨h, tk, m, [], rfl, hst, hn, hD, Nat.zero_le _, by simpa using StrsAre.nil, fun _ _ _ _ _ e => e⟩
  · rintro i s' E' hi ⟨h', tk', m', zs, rfl, st, hn', hD', hi', hz, hk⟩
    refine ⟨st, fun v h₂ tk₂ hP st₂ hk₂ => ?_⟩
    obtain ⟨c0, u0, hc, rfl⟩ := hP
    refine wpAny_assign_Name (wpAny_storeName_local ka (hn'.at' fun o e => hk₂ _ o CI e) (fun h₃ hn₃ hs₃ => ?_) hp)
    have hD₃ : h₃.get? D = some (lst zs) := hs₃.extBut _ _ (Ne.symm CD) (hk₂ _ _ DI hD')
    have st₃ : St (i + 1) h₃ := W.frame _ _ _ st₂ fun q hq o e => by
      rw [List.mem_singleton.mp hq] at e ⊢
      exact hs₃.extBut _ _ (Ne.symm CI) e
    obtain ⟨oI, heI⟩ := hIo _ _ st₃
    have hzl : zs.length = i * (x1.cps.size * x2.cps.size) := by rw [strs_len hz, hgl, List.length_take, Array.length_toList, Nat.min_eq_left hi']
    have hmul : i * (x1.cps.size * x2.cps.size) + x1.cps.size * x2.cps.size ≤ x0.cps.size * (x1.cps.size * x2.cps.size) := by
      rw [← Nat.succ_mul]; exact Nat.mul_le_mul_right _ hi
    refine goIn_str hh ha1 (fun it' R s => start1) (fun I2 St2 o2 R2 hI2 W2 hIo2 hst2 hR2 => ?_)
    subst hI2
    have up : ∀ p o, h₃.get? p = some o → (h₃.push o2).get? p = some o := fun p o e => Heap.get?_push_of_some _ e
    have below : ∀ p o, h₃.get? p = some o → p ≠ h₃.objs.size := fun p o e => Nat.ne_of_lt (Heap.lt_size e)
    refine lev1 (s := s) (c0 := c0) (u0 := u0) K' W2 hst2 (hn₃.at' fun o e => up _ _ e) (by simp) (up _ _ hD₃) (by omega) (Nat.ne_of_lt hn₃.lt) (below _ _ hD₃) hIo2 ha2 ?_
    intro h₅ tk₅ m₅ ws hn₅ ma₅ hD₅ hw hk₅
    refine hR2 _ _ ⟨rfl, h₅, tk₅, m₅, zs ++ ws, rfl, ?_, hn₅, hD₅, hi, ?_, ?_⟩
    · exact W.frame _ _ _ st₃ fun q hq o e => by
        rw [List.mem_singleton.mp hq] at e ⊢
        exact hk₅ _ _ (Ne.symm CI) (Ne.symm DI) (below _ _ e) (up _ _ e)
    · rw [take_at hc, List.flatMap_append]
      exact strs_app hz (by simpa using hw)
    · intro p o hpC hpD hpI e
      have e3 := hs₃.extBut _ _ hpC (hk₂ _ _ hpI (hk p o hpC hpD hpI e))
      exact hk₅ _ _ hpC hpD (below _ _ e3) (up _ _ e3)
  · rintro s' ⟨h', tk', m', zs, rfl, st, hn', hD', hi', hz, hk⟩
    refine ⟨st, fun h₂ tk₂ hk₂ => hR h₂ tk₂ m' zs (hn'.at' fun o e => hk₂ _ o CI e) (hk₂ _ _ DI hD') (by rw [take_all] at hz; exact hz) fun p o hpC hpD hpI e => hk₂ _ _ hpI (hk p o hpC hpD hpI e)⟩
theorem no1 {n q : Nat} (h : q < n) : q ≠ n + 1 := by omega
theorem no2 {n q : Nat} (h : q < n) : q ≠ n + 1 + 1 := by omega
theorem ListComp3 {E : Value → Shared → Prop} {h₀ : Heap} {L : Addr} {m : Str → Option Value} {news : List (Addr × Obj)} {cl : List (Str × Addr)} {Q : Value → Shared → Prop} (F₀ : Fr h₀ L s.heap m) (N₀ : News h₀ L s.heap news) (hh : A.handled = none)
    (hclos : closureFor scope env = pure cl) (hcell : ∀ y ∈ scope.names, y.2 ≠ .cell) (hkind : scope.kind = .function)
    (hnames : ∀ y ∈ scope.names, y.2 = .local → scope.names.lookup y.1 = some .local) (hxa : scope.names.lookup a = some .local) (hxb : scope.names.lookup b = some .local) (hxc : scope.names.lookup c = some .local)
    (ab : a ≠ b) (ac : a ≠ c) (bc : b ≠ c) (ha0 : x0.cps.all (· < 128) = true) (ha1 : x1.cps.all (· < 128) = true) (ha2 : x2.cps.all (· < 128) = true) (hsz : x0.cps.size * (x1.cps.size * x2.cps.size) ≤ 16777216)
    (hel : ∀ (C : Addr) (s : Shared), ∀ c0 c1 c2 u0 u1 u2 m h tk (E' : Value → Shared → Prop), h.Ns C m → m a = some (.str ⟨#[c0]⟩ u0) → m b = some (.str ⟨#[c1]⟩ u1) → m c = some (.str ⟨#[c2]⟩ u2) →
      wpAny (model prog w) A (eval elt (compEnvC scope cl C env)) (fun y s' => ∃ t tk', y = .str (r c0 c1 c2) t ∧ s' = { s with heap := h, toks := tk' }) E' { s with heap := h, toks := tk })
    (h : ∀ D h' tk zs, Fr h₀ L h' m → News h₀ L h' ((D, lst zs) :: news) → (∀ p ∈ news, p.1 < D) → StrsAre zs (x0.cps.toList.flatMap fun c0 => x1.cps.toList.flatMap fun c1 => x2.cps.toList.map (r c0 c1)) → Q (.ref D) { s with heap := h', toks := tk })
    (hs : ∀ v, foldedSetIterable (.Constant (.str x0) k0 q0) env v = pure v := by intro _; rfl) :
    wpAny (model prog w) A (eval (.ListComp elt [⟨.Name a pa, .Constant (.str x0) k0 q0, [], 0⟩, ⟨.Name b pb, .Constant (.str x1) k1 q1, [], 0⟩, ⟨.Name c pc, .Constant (.str x2) k2 q2, [], 0⟩] scope pos) env) Q E s := by
  rw [eval_ListComp]
  refine wpAny_comprehension_free (use := none) rfl hs hclos hkind hnames (wpAny_Constant_str (k := k0) (pos := q0) (wpAny_pyIter_ascii ha0 ?_))
  refine wpAny_newObj_type (wpAny_newFunctionEnv hcell (by intro y hy; simp at hy) (fun h₁ hns₁ hsb₁ => ?_) hkind)
  dsimp only at hns₁ hsb₁ ⊢
  generalize hH1 : s.heap.push { cls := .type "str_ascii_iterator", dict := none, data := .fields #[.str x0 s.toks, .int 0 0] } = H1 at hns₁ hsb₁ ⊢
  generalize hH2 : H1.push { cls := .type "list", dict := none, data := .seq ([] : List Value).toArray } = H2 at hns₁ hsb₁ ⊢
  have hD : H1.objs.size = s.heap.objs.size + 1 := by rw [← hH1, Heap.size_push]
  have hC : H2.objs.size = s.heap.objs.size + 1 + 1 := by rw [← hH2, Heap.size_push, hD]
  have hCD : H2.objs.size ≠ H1.objs.size := by rw [hC, hD]; exact Nat.succ_ne_self _
  have hCI : H2.objs.size ≠ s.heap.objs.size := by rw [hC]; omega
  have hDI : H1.objs.size ≠ s.heap.objs.size := by rw [hD]; exact Nat.succ_ne_self _
  have hI1 : H1.get? s.heap.objs.size = some { cls := .type "str_ascii_iterator", dict := none, data := .fields #[.str x0 s.toks, .int 0 0] } := hH1 ▸ Heap.get?_push_size _ rfl
  have hI2 : h₁.get? s.heap.objs.size = some { cls := .type "str_ascii_iterator", dict := none, data := .fields #[.str x0 s.toks, .int 0 0] } := hsb₁.extBut _ _ (Ne.symm hCI) (Heap.get?_push_of_some _ (hH2 ▸ Heap.get?_push_of_some _ hI1))
  have old : ∀ q o, s.heap.get? q = some o → h₁.get? q = some o := fun q o e => hsb₁.extBut q o (fun z => no2 (Heap.lt_size e) (z.trans hC)) (Heap.get?_push_of_some _ (hH2 ▸ Heap.get?_push_of_some _ (hH1 ▸ Heap.get?_push_of_some _ e)))
  have hacc : h₁.get? H1.objs.size = some (lst []) := hsb₁.extBut _ _ (Ne.symm hCD) (Heap.get?_push_of_some _ (hH2 ▸ Heap.get?_push_size _ rfl))
  have W := Walks.strAscii (prog := prog) (w := w) hh s.heap.objs.size x0 s.toks
  have hIo : ∀ i (h : Heap), h.IsStrIter s.heap.objs.size "str_ascii_iterator" x0 s.toks i → ∃ o, h.get? s.heap.objs.size = some o := fun i h st => let ⟨o, ho, _⟩ := st; ⟨o, ho⟩
  have hst : h₁.IsStrIter s.heap.objs.size "str_ascii_iterator" x0 s.toks 0 := ⟨_, hI2, rfl, rfl⟩
  have hD₀ : h₀.get? H1.objs.size = none := by
    cases e : h₀.get? H1.objs.size with
    | none => rfl
    | some o' => exact absurd hD (no1 (Heap.lt_size (F₀.keep _ o' e)))
  have hDL : H1.objs.size ≠ L := fun e => no1 F₀.ns.lt (e.symm.trans hD)
  have loop : codeAny (model prog w) A (.compLoop (.ListComp elt [⟨.Name a pa, .Constant (.str x0) k0 q0, [], 0⟩, ⟨.Name b pb, .Constant (.str x1) k1 q1, [], 0⟩, ⟨.Name c pc, .Constant (.str x2) k2 q2, [], 0⟩] scope pos) 0 (.ref s.heap.objs.size) (.ref H1.objs.size) (compEnvC scope cl H2.objs.size env))
      (compPost (model prog w) A E none Q (.ref H1.objs.size) H2.objs.size) { s with heap := h₁, toks := s.toks + 1 + ([] : List (Str × Value)).length } := by
    refine lev0 (s := s) (r := r) ⟨hh, rfl, lookup_relabel_local hxa, lookup_relabel_local hxb, lookup_relabel_local hxc, by simp [compEnvC, relabel, hkind], ab, ac, bc, hCD, hel _ _⟩ W hst hns₁ hacc (by rw [sizeLine_eq]; exact hsz) hCI hDI hIo ha1 ha2 ?_
    intro h' tk' m' zs hn' hD' hz hk
    refine ⟨m', hn', fun h'' hs'' => ?_⟩
    have up : ∀ q o, s.heap.get? q = some o → h''.get? q = some o := fun q o e => by
      have hq := Heap.lt_size e
      exact hs''.extBut _ _ (fun z => no2 hq (z.trans hC)) (hk _ _ (fun z => no2 hq (z.trans hC)) (fun z => no1 hq (z.trans hD)) (Nat.ne_of_lt hq) (old _ _ e))
    refine h _ _ _ zs (F₀.keeps up) (fun p hp => ?_) (fun p hp => by rw [hD]; exact Nat.lt_succ_of_lt (Heap.lt_size (N₀ p hp).1)) hz
    rcases List.mem_cons.mp hp with rfl | hp
    · exact ⟨hs''.extBut _ _ (Ne.symm hCD) hD', hDL, hD₀⟩
    · exact ⟨up _ _ (N₀ p hp).1, (N₀ p hp).2⟩
  exact codeAny_compStart_list loop (W.self 0 _ _ _ hst loop)
end
end

def words8 : List Str := (List.range 8).map fun z => sub z 0 3
def cat3 (c0 c1 c2 : Nat) : Str := (Str.mk #[c0] ++ Str.mk #[c1]) ++ Str.mk #[c2]
theorem words_cat : ((Str.ofString "BC").cps.toList.flatMap fun c0 => (Str.ofString "DE").cps.toList.flatMap fun c1 => (Str.ofString "FG").cps.toList.map (cat3 c0 c1)) = words8 := by decide +kernel
section
open PySem.Calls LCg PySem.Spec
variable {prog : Program} {w : World} {A : Around} {E : Value → Shared → Prop} {s : Shared}
theorem strs_rel : ∀ {zs : List Value} {ss : List Str}, zs.length = ss.length → RelL (fun j v => ∃ t, v = .str (ss.getD j Str.empty) t) zs → StrsAre zs ss
  | [], [], _, _ => .nil
  | z :: zs, a :: ss, hl, h => by
    obtain ⟨v, e, t, rfl⟩ := h 0 (by simp)
    have e' : z = .str a t := by simpa using e
    subst e'
    refine .cons a t (strs_rel (by simpa using hl) fun j hj => ?_)
    obtain ⟨v, e, r⟩ := h (j + 1) (by simpa using hj)
    exact ⟨v, by simpa using e, by simpa using r⟩
theorem words_at {j : Nat} (hj : j < 8) : words8.getD j Str.empty = sub j 0 3 := by
  unfold words8
  rw [List.getD_eq_getElem?_getD, List.getElem?_map, List.getElem?_range hj]
  rfl
theorem strs_words {zs : List Value} (hl : zs.length = 8) (h : RelL (fun i v => ∃ t, v = .str (sub i 0 3) t) zs) : StrsAre zs words8 := by
  refine strs_rel (by rw [hl]; rfl) fun j hj => ?_
  obtain ⟨v, e, t, r⟩ := h j hj
  exact ⟨v, e, t, by rw [r, words_at (by omega)]⟩
theorem ne_words {a b : Addr} {xs ys : List Value} {Q : Value → Shared → Prop} (ha : s.heap.IsList a xs.toArray) (hb : s.heap.IsList b ys.toArray) (hi : StrsAre xs words8) (hj : StrsAre ys words8) (hu : A.units + 64 < cLine) (h : Q (.bool false) s) :
    wpAny (model prog w) A (compareOp .NotEq (.ref a) (.ref b)) Q E s := by
  have hs : PySem.Spec.same (.list (words8.map PyData.str)) (.list (words8.map PyData.str)) = true := by decide +kernel
  exact ne_dataH_same (reads_newData ha hi.carried) (reads_newData hb hj.carried) (by decide +kernel) (by decide +kernel) hu (by decide +kernel) (by rw [hs]; exact h)
theorem elt3 {C : Addr} {scope : Scope} {cl : List (Str × Addr)} {env : Env} {a b c : Str} {pa pb pc p1 p2 : Pos} {m : Str → Option Value} {c0 c1 c2 : Nat} {u0 u1 u2 : Tok} (hn : s.heap.Ns C m) (ma : m a = some (.str ⟨#[c0]⟩ u0)) (mb : m b = some (.str ⟨#[c1]⟩ u1)) (mc : m c = some (.str ⟨#[c2]⟩ u2))
    (hk : (compEnvC scope cl C env).scope.kind = .function) (ka : (compEnvC scope cl C env).kindOf a = some .local) (kb : (compEnvC scope cl C env).kindOf b = some .local) (kc : (compEnvC scope cl C env).kindOf c = some .local)
    (da : (a == ("__debug__" : Str)) = false) (db : (b == ("__debug__" : Str)) = false) (dc : (c == ("__debug__" : Str)) = false) :
    wpAny (model prog w) A (eval (.BinOp (.BinOp (.Name a pa) .Add (.Name b pb) p1) .Add (.Name c pc) p2) (compEnvC scope cl C env)) (fun y s' => ∃ t tk', y = .str (cat3 c0 c1 c2) t ∧ s' = { s with heap := s.heap, toks := tk' }) E s := by
  refine wpAny_BinOp (wpAny_BinOp (ldVarK hn ma (ldVarK hn mb (SBL.add (fun t' k _ => ?_) (by rw [sizeLine_eq]; exact Nat.le_of_ble_eq_true rfl)) hk kb db) hk ka da))
  refine ldVarK hn mc (SBL.add (fun t2 k2 _ => ⟨t2, k2, rfl, rfl⟩) ?_) hk kc dc
  rw [sizeLine_eq]
  show ((Str.mk #[c0] ++ Str.mk #[c1]).length + (Str.mk #[c2]).length) ≤ _
  rw [Str.length_append]
  exact Nat.le_of_ble_eq_true rfl
end

section
open PySem.Calls LCg
/-- the end of one turn of a for -/
def ForEnd (h₀ : Heap) (L I : Addr) (oI : Obj) (J : (Str → Option Value) → List (Addr × Obj) → Prop) (Qr : Value → Shared → Prop) (s : Shared) (f : Flow) (s' : Shared) : Prop :=
  match f with
  | .next | .cont => ∃ h' tk' m' nw, s' = { s with heap := h', toks := tk' } ∧ Fr h₀ L h' m' ∧ News h₀ L h' ((I, oI) :: nw) ∧ Off1 I nw ∧ J m' nw
  | .brk => False
  | .ret v => Qr v s'
theorem ForEnd.next {h₀ : Heap} {L I : Addr} {oI : Obj} {J : (Str → Option Value) → List (Addr × Obj) → Prop} {Qr : Value → Shared → Prop} {s : Shared} {h' : Heap} {tk' : Nat} {m' : Str → Option Value} {all : List (Addr × Obj)}
    (F : Fr h₀ L h' m') (N : News h₀ L h' all) (nw : List (Addr × Obj)) (sub : ∀ p ∈ (I, oI) :: nw, p ∈ all) (off : Off1 I nw) (j : J m' nw) : ForEnd h₀ L I oI J Qr s .next { s with heap := h', toks := tk' } :=
  ⟨h', tk', m', nw, rfl, F, fun p hp => N p (sub p hp), off, j⟩
theorem off1_mem {D : Addr} : ∀ {l : List (Addr × Obj)}, Off1 D l → ∀ p ∈ l, p.1 ≠ D
  | [], _, _, h => nomatch h
  | _ :: _, x, p, h => by
    rcases List.mem_cons.mp h with rfl | h
    · exact x.1
    · exact off1_mem x.2 p h
theorem off1_of {D : Addr} : ∀ {l : List (Addr × Obj)}, (∀ p ∈ l, p.1 ≠ D) → Off1 D l
  | [], _ => trivial
  | _ :: _, h => ⟨h _ List.mem_cons_self, off1_of fun p hp => h p (List.mem_cons_of_mem _ hp)⟩
variable {prog : Program} {w : World} {A : Around} {E : Value → Shared → Prop} {s : Shared} {h₀ : Heap} {L : Addr} {m : Str → Option Value} {env : Env} {x : Str} {px : Pos} {body : List Stmt} {news : List (Addr × Obj)} {Q : Flow → Shared → Prop}
theorem for_walk {I : Addr} {fp : List Addr} {n : Nat} {P : Nat → Value → Prop} {St : Nat → Heap → Prop} (W : Walks prog w A I fp [I] n P St) (hIo : ∀ i h, St i h → ∃ o, h.get? I = some o)
    (Inv : Nat → (Str → Option Value) → List (Addr × Obj) → Prop)
    (F : Fr h₀ L s.heap m) (N : News h₀ L s.heap news) (hIL : L ≠ I) (hI₀ : h₀.get? I = none) (off : ∀ p ∈ news, p.1 ≠ I) (hst : St 0 s.heap) (h0 : Inv 0 m news)
    (turn : ∀ i m' nw v oI h tk (E' : Value → Shared → Prop), i < n → Inv i m' nw → P i v → Fr h₀ L h m' → News h₀ L h ((I, oI) :: nw) → Off1 I nw →
      wpAny (model prog w) A (storeName env x v) (fun _ s₂ => wpAny (model prog w) A (execs body env) (ForEnd h₀ L I oI (Inv (i + 1)) (fun v => Q (.ret v)) { s with heap := h, toks := tk }) E' s₂) E' { s with heap := h, toks := tk })
    (done : ∀ m' nw h tk, Inv n m' nw → Fr h₀ L h m' → News h₀ L h nw → Q .next { s with heap := h, toks := tk })
    (hx : ∀ i h h' o nw m', St (i + 1) h → h.get? I = some o → h'.get? I = some o → News h₀ L h' nw → Inv (i + 1) m' nw → St (i + 1) h') :
    codeAny (model prog w) A (.forLoop (.Name x px) (.ref I) body [] env) (fun r s' => match r with | .ok f => Q f s' | .error e => cameBackBy (model prog w) A env E e s') s := by
  refine codeAny_forLoop_any (fun k s' => ∃ i h' tk' m' nw, s' = { s with heap := h', toks := tk' } ∧ i ≤ n ∧ k = n - i ∧ St i h' ∧ Fr h₀ L h' m' ∧ News h₀ L h' nw ∧ (∀ p ∈ nw, p.1 ≠ I) ∧ Inv i m' nw) ?_ n
    ⟨0, s.heap, s.toks, m, news, rfl, Nat.zero_le _, rfl, hst, F, N, off, h0⟩
  rintro k s' ⟨i, h', tk', m', nw, rfl, hi, rfl, st, F', N', off', hI⟩
  by_cases hlt : i < n
  · refine W.item i _ _ _ hlt st fun v h₂ tk₂ hP st₂ hk₂ => ?_
    have hk₃ : ∀ b o, b ∉ [I] → h'.get? b = some o → h₂.get? b = some o := hk₂
    obtain ⟨oI, heI⟩ := hIo _ _ st₂
    refine wpAny_of_eq (show letOwnedTupleGo (.Name x px) (.ref I) v = pure () from rfl) ?_
    refine wpAny_assign_Name ?_
    have N₂ := news_but N' hk₃ off'
    refine wpAny_mono (turn i m' nw v oI h₂ tk₂ _ hlt hI hP (fr_but F' hk₃ hIL hI₀) (fun p hp => ?_) (off1_of off')) (fun _ s₂ h₂' => wpAny_mono h₂' (fun f s₃ h₃ => ?_) fun _ _ e => e) fun _ _ e => e
    · rcases List.mem_cons.mp hp with rfl | hp
      · exact ⟨heI, Ne.symm hIL, hI₀⟩
      · exact N₂ p hp
    · have go : (∃ h' tk' m' nw, s₃ = { s with heap := h', toks := tk' } ∧ Fr h₀ L h' m' ∧ News h₀ L h' ((I, oI) :: nw) ∧ Off1 I nw ∧ Inv (i + 1) m' nw) → ∃ m, m < n - i ∧ ∃ i h' tk' m' nw, s₃ = { s with heap := h', toks := tk' } ∧ i ≤ n ∧ m = n - i ∧ St i h' ∧ Fr h₀ L h' m' ∧ News h₀ L h' nw ∧ (∀ p ∈ nw, p.1 ≠ I) ∧ Inv i m' nw := by
        rintro ⟨h₄, tk₄, m₄, nw₄, rfl, F₄, N₄, off₄, hI₄⟩
        have N₅ : News h₀ L h₄ nw₄ := fun p hp => N₄ p (List.mem_cons_of_mem _ hp)
        exact ⟨n - (i + 1), by omega, i + 1, h₄, tk₄, m₄, nw₄, rfl, hlt, rfl, hx i _ _ _ nw₄ m₄ st₂ heI (N₄ _ List.mem_cons_self).1 N₅ hI₄, F₄, N₅, off1_mem off₄, hI₄⟩
      cases f with
      | next => exact go h₃
      | cont => exact go h₃
      | brk => exact False.elim h₃
      | ret v => exact h₃
  · obtain rfl : i = n := by omega
    refine W.done _ _ _ st fun h₂ tk₂ hk₂ => ?_
    have hk₃ : ∀ b o, b ∉ [I] → h'.get? b = some o → h₂.get? b = some o := hk₂
    exact wpAny_execs_nil (done m' nw h₂ tk₂ hI (fr_but F' hk₃ hIL hI₀) (news_but N' hk₃ off'))
theorem for_range {r : Addr} {a b : Int} {t u v : Tok} {n : Nat} (hh : A.handled = none) (F : Fr h₀ L s.heap m) (N : News h₀ L s.heap news) (hr : IsRange s.heap r a b 1 t u v) (hsm : Builtin.Range.small a b 1 = true) (hn : Builtin.Range.rangeSize a b 1 = ((n : Nat) : Int))
    (Inv : Nat → (Str → Option Value) → List (Addr × Obj) → Prop) (h0 : Inv 0 m news)
    (turn : ∀ i I m' nw t oI h tk (E' : Value → Shared → Prop), i < n → Inv i m' nw → Fr h₀ L h m' → News h₀ L h ((I, oI) :: nw) → Off1 I nw →
      wpAny (model prog w) A (storeName env x (.int (a + (i : Int)) t)) (fun _ s₂ => wpAny (model prog w) A (execs body env) (ForEnd h₀ L I oI (Inv (i + 1)) (fun v => Q (.ret v)) { s with heap := h, toks := tk }) E' s₂) E' { s with heap := h, toks := tk })
    (done : ∀ m' nw h tk, Inv n m' nw → Fr h₀ L h m' → News h₀ L h nw → Q .next { s with heap := h, toks := tk }) :
    wpAny (model prog w) A (pyIter (.ref r)) (fun it s₂ => codeAny (model prog w) A (.forLoop (.Name x px) it body [] env) (fun r s' => match r with | .ok f => Q f s' | .error e => cameBackBy (model prog w) A env E e s') s₂) E s := by
  refine wpAny_pyIter_range hr hsm ?_
  refine for_walk (s := { s with heap := _ }) (range_walks hh a n) (fun i h st => ⟨_, st⟩) Inv (F.keeps fun _ _ e => Heap.get?_push_of_some _ e) (N.grown fun _ _ e => Heap.get?_push_of_some _ e) (Nat.ne_of_lt F.ns.lt) (next_is_new F) (fun p hp => Nat.ne_of_lt (Heap.lt_size (N p hp).1))
    (by show IsRangeIter _ _ _ _ _; rw [hn]; simpa using Heap.get?_push_size _ rfl) h0 (fun i m' nw v oI h tk E' hi hI hP F' N' off' => ?_) (fun m' nw h tk hI F' N' => done m' nw h tk hI F' N') (fun i h h' o nw m' st e e' _ _ => ?_)
  · obtain ⟨t, rfl⟩ := hP
    exact turn i _ m' nw t oI h tk E' hi hI F' N' off'
  · have st' : h.get? _ = some _ := st
    show h'.get? _ = some _
    rw [e', ← e]; exact st'
theorem for_list {ax : Addr} {vs : List Value} {k : Nat} (hh : A.handled = none) (F : Fr h₀ L s.heap m) (N : News h₀ L s.heap news)
    (Inv : Nat → (Str → Option Value) → List (Addr × Obj) → Prop) (hin : ∀ i m' nw, Inv i m' nw → (ax, listOf vs.toArray k) ∈ nw) (h0 : Inv 0 m news)
    (turn : ∀ i I m' nw v oI h tk (E' : Value → Shared → Prop), i < vs.length → Inv i m' nw → vs[i]? = some v → Fr h₀ L h m' → News h₀ L h ((I, oI) :: nw) → Off1 I nw →
      wpAny (model prog w) A (storeName env x v) (fun _ s₂ => wpAny (model prog w) A (execs body env) (ForEnd h₀ L I oI (Inv (i + 1)) (fun v => Q (.ret v)) { s with heap := h, toks := tk }) E' s₂) E' { s with heap := h, toks := tk })
    (done : ∀ m' nw h tk, Inv vs.length m' nw → Fr h₀ L h m' → News h₀ L h nw → Q .next { s with heap := h, toks := tk }) :
    wpAny (model prog w) A (pyIter (.ref ax)) (fun it s₂ => codeAny (model prog w) A (.forLoop (.Name x px) it body [] env) (fun r s' => match r with | .ok f => Q f s' | .error e => cameBackBy (model prog w) A env E e s') s₂) E s := by
  have hl : s.heap.IsList ax vs.toArray := PySem.IsL.isList (n := k) (N _ (hin _ _ _ h0)).1
  have hlt : ax < s.heap.objs.size := by obtain ⟨_, e, _⟩ := hl; exact Heap.lt_size e
  refine wpAny_pyIter_list hl ?_
  have W := Walks.list (prog := prog) (w := w) hh s.heap.objs.size ax (Nat.ne_of_lt hlt) vs.toArray
  have hsz : vs.toArray.size = vs.length := by simp
  rw [hsz] at W
  refine for_walk (s := { s with heap := _ }) W (fun i h st => by obtain ⟨o, e, _⟩ := st.1; exact ⟨o, e⟩) Inv (F.keeps fun _ _ e => Heap.get?_push_of_some _ e) (N.grown fun _ _ e => Heap.get?_push_of_some _ e) (Nat.ne_of_lt F.ns.lt) (next_is_new F) (fun p hp => Nat.ne_of_lt (Heap.lt_size (N p hp).1))
    ⟨⟨_, Heap.get?_push_size _ rfl, rfl, rfl⟩, hl.push _⟩ h0 (fun i m' nw v oI h tk E' hi hI hP F' N' off' => ?_) (fun m' nw h tk hI F' N' => done m' nw h tk hI F' N') (fun i h h' o nw m' st e e' N' hI => ?_)
  · exact turn i _ m' nw v oI h tk E' hi hI (by simpa using hP) F' N' off'
  · exact ⟨by obtain ⟨o', q, r⟩ := st.1; rw [e] at q; cases q; exact ⟨o, e', r⟩, PySem.IsL.isList (n := k) (N' _ (hin _ _ _ hI)).1⟩
/-- the end of one turn of a for whose target is a cell, c -/
def ForEndC (h₀ : Heap) (L I : Addr) (oI : Obj) (c : Addr) (J : (Str → Option Value) → List (Addr × Obj) → Prop) (Qr : Value → Shared → Prop) (s : Shared) (f : Flow) (s' : Shared) : Prop :=
  ForEnd h₀ L I oI (fun m' nw => ∃ oc nw' vv, nw = (c, oc) :: nw' ∧ oc.data = .cell vv ∧ Off1 c nw' ∧ J m' nw') Qr s f s'
theorem ForEndC.next {h₀ : Heap} {L I : Addr} {oI oc : Obj} {c : Addr} {vv : Option Value} {J : (Str → Option Value) → List (Addr × Obj) → Prop} {Qr : Value → Shared → Prop} {s : Shared} {h' : Heap} {tk' : Nat} {m' : Str → Option Value} {all : List (Addr × Obj)}
    (F : Fr h₀ L h' m') (N : News h₀ L h' all) (nw : List (Addr × Obj)) (hd : oc.data = .cell vv) (sub : ∀ p ∈ (I, oI) :: (c, oc) :: nw, p ∈ all) (off : Off1 I ((c, oc) :: nw)) (offc : Off1 c nw) (j : J m' nw) : ForEndC h₀ L I oI c J Qr s .next { s with heap := h', toks := tk' } :=
  ⟨h', tk', m', (c, oc) :: nw, rfl, F, fun p hp => N p (sub p hp), off, oc, nw, vv, rfl, hd, offc, j⟩
theorem store_cell {A : Around} {c : Addr} {oc oI : Obj} {I : Addr} {vv : Option Value} {v : Value} {nw : List (Addr × Obj)} {Q : Unit → Shared → Prop} (hk : env.scope.kind = .function) (hl : env.kindOf x = some .cell) (hc : env.cells.lookup x = some c)
    (F : Fr h₀ L s.heap m) (N : News h₀ L s.heap ((I, oI) :: (c, oc) :: nw)) (hd : oc.data = .cell vv) (hI : c ≠ I) (off : Off1 c nw)
    (h : ∀ h' oc', Fr h₀ L h' m → News h₀ L h' ((I, oI) :: (c, oc') :: nw) → oc'.data = .cell (some v) → Q () { s with heap := h' }) :
    wpAny (model prog w) A (storeName env x v) Q E s := by
  have z := N (c, oc) (.tail _ (.head _))
  refine wpAny_storeName_cell hk hl hc ⟨oc, z.1, hd⟩ fun h' hv hs => ?_
  obtain ⟨oc', e, d⟩ := hv
  refine h h' oc' (F.change hs z.2.1 z.2.2) (fun p hp => ?_) d
  rcases List.mem_cons.mp hp with rfl | hp
  · have y := N (I, oI) (.head _)
    exact ⟨hs.extBut _ _ (Ne.symm hI) y.1, y.2⟩
  · rcases List.mem_cons.mp hp with rfl | hp
    · exact ⟨e, z.2⟩
    · have y := N p (.tail _ (.tail _ hp))
      exact ⟨hs.extBut _ _ (off1_mem off p hp) y.1, y.2⟩
theorem store_mid {A : Around} {c : Addr} {oc : Obj} {vv : Option Value} {v : Value} {pre post : List (Addr × Obj)} {Q : Unit → Shared → Prop} (hk : env.scope.kind = .function) (hl : env.kindOf x = some .cell) (hc : env.cells.lookup x = some c)
    (F : Fr h₀ L s.heap m) (N : News h₀ L s.heap (pre ++ (c, oc) :: post)) (hd : oc.data = .cell vv) (o1 : Off1 c pre) (o2 : Off1 c post)
    (h : ∀ h' oc', Fr h₀ L h' m → News h₀ L h' (pre ++ (c, oc') :: post) → oc'.data = .cell (some v) → Q () { s with heap := h' }) :
    wpAny (model prog w) A (storeName env x v) Q E s := by
  have z := N (c, oc) (List.mem_append.mpr (.inr (.head _)))
  refine wpAny_storeName_cell hk hl hc ⟨oc, z.1, hd⟩ fun h' hv hs => ?_
  obtain ⟨oc', e, d⟩ := hv
  refine h h' oc' (F.change hs z.2.1 z.2.2) (fun p hp => ?_) d
  rcases List.mem_append.mp hp with hp | hp
  · have y := N p (List.mem_append.mpr (.inl hp))
    exact ⟨hs.extBut _ _ (off1_mem o1 p hp) y.1, y.2⟩
  · rcases List.mem_cons.mp hp with rfl | hp
    · exact ⟨e, z.2⟩
    · have y := N p (List.mem_append.mpr (.inr (.tail _ hp)))
      exact ⟨hs.extBut _ _ (off1_mem o2 p hp) y.1, y.2⟩
theorem forC_range {r : Addr} {a b : Int} {t u v : Tok} {n : Nat} {c : Addr} {oc : Obj} {vv : Option Value} (hk : env.scope.kind = .function) (hl : env.kindOf x = some .cell) (hc : env.cells.lookup x = some c) (hh : A.handled = none)
    (F : Fr h₀ L s.heap m) (N : News h₀ L s.heap ((c, oc) :: news)) (hd : oc.data = .cell vv) (off : Off1 c news) (hr : IsRange s.heap r a b 1 t u v) (hsm : Builtin.Range.small a b 1 = true) (hn : Builtin.Range.rangeSize a b 1 = ((n : Nat) : Int))
    (Inv : Nat → (Str → Option Value) → List (Addr × Obj) → Prop) (h0 : Inv 0 m news)
    (turn : ∀ i I m' nw t oI oc h tk (E' : Value → Shared → Prop), i < n → Inv i m' nw → Fr h₀ L h m' → News h₀ L h ((I, oI) :: (c, oc) :: nw) → oc.data = .cell (some (.int (a + (i : Int)) t)) → Off1 I nw → c ≠ I → Off1 c nw → ∀ tk0 h0,
      wpAny (model prog w) A (execs body env) (ForEndC h₀ L I oI c (Inv (i + 1)) (fun v => Q (.ret v)) { s with heap := h0, toks := tk0 }) E' { s with heap := h, toks := tk })
    (done : ∀ m' nw oc vv h tk, Inv n m' nw → Fr h₀ L h m' → News h₀ L h ((c, oc) :: nw) → oc.data = .cell vv → Off1 c nw → Q .next { s with heap := h, toks := tk }) :
    wpAny (model prog w) A (pyIter (.ref r)) (fun it s₂ => codeAny (model prog w) A (.forLoop (.Name x px) it body [] env) (fun r s' => match r with | .ok f => Q f s' | .error e => cameBackBy (model prog w) A env E e s') s₂) E s := by
  refine for_range hh F N hr hsm hn (fun i m' nw => ∃ oc nw' vv, nw = (c, oc) :: nw' ∧ oc.data = .cell vv ∧ Off1 c nw' ∧ Inv i m' nw') ⟨oc, news, vv, rfl, hd, off, h0⟩ ?_ ?_
  · rintro i I m' nw t oI h tk E' hi ⟨oc, nw', vv, rfl, hd, off, hI⟩ F' N' off'
    exact store_cell (s := { s with heap := h, toks := tk }) hk hl hc F' N' hd off'.1 off fun h' oc' F₂ N₂ hd₂ => turn i I m' nw' t oI oc' h' tk E' hi hI F₂ N₂ hd₂ off'.2 off'.1 off _ _
  · rintro m' nw h tk ⟨oc, nw', vv, rfl, hd, off, hI⟩ F' N'
    exact done m' nw' oc vv h tk hI F' N' hd off
theorem forC_list {ax : Addr} {vs : List Value} {k : Nat} {c : Addr} {oc : Obj} {vv : Option Value} (hk : env.scope.kind = .function) (hl : env.kindOf x = some .cell) (hc : env.cells.lookup x = some c) (hh : A.handled = none)
    (F : Fr h₀ L s.heap m) (N : News h₀ L s.heap ((c, oc) :: news)) (hd : oc.data = .cell vv) (off : Off1 c news)
    (Inv : Nat → (Str → Option Value) → List (Addr × Obj) → Prop) (hin : ∀ i m' nw, Inv i m' nw → (ax, listOf vs.toArray k) ∈ nw) (h0 : Inv 0 m news)
    (turn : ∀ i I m' nw v oI oc h tk (E' : Value → Shared → Prop), i < vs.length → Inv i m' nw → vs[i]? = some v → Fr h₀ L h m' → News h₀ L h ((I, oI) :: (c, oc) :: nw) → oc.data = .cell (some v) → Off1 I nw → c ≠ I → Off1 c nw → ∀ tk0 h0,
      wpAny (model prog w) A (execs body env) (ForEndC h₀ L I oI c (Inv (i + 1)) (fun v => Q (.ret v)) { s with heap := h0, toks := tk0 }) E' { s with heap := h, toks := tk })
    (done : ∀ m' nw oc vv h tk, Inv vs.length m' nw → Fr h₀ L h m' → News h₀ L h ((c, oc) :: nw) → oc.data = .cell vv → Off1 c nw → Q .next { s with heap := h, toks := tk }) :
    wpAny (model prog w) A (pyIter (.ref ax)) (fun it s₂ => codeAny (model prog w) A (.forLoop (.Name x px) it body [] env) (fun r s' => match r with | .ok f => Q f s' | .error e => cameBackBy (model prog w) A env E e s') s₂) E s := by
  refine for_list hh F N (fun i m' nw => ∃ oc nw' vv, nw = (c, oc) :: nw' ∧ oc.data = .cell vv ∧ Off1 c nw' ∧ Inv i m' nw') (k := k) (ax := ax) (vs := vs) (fun i m' nw ⟨oc, nw', vv, e, _, _, hI⟩ => by rw [e]; exact .tail _ (hin i m' nw' hI)) ⟨oc, news, vv, rfl, hd, off, h0⟩ ?_ ?_
  · rintro i I m' nw v oI h tk E' hi ⟨oc, nw', vv, rfl, hd, off, hI⟩ hv F' N' off'
    exact store_cell (s := { s with heap := h, toks := tk }) hk hl hc F' N' hd off'.1 off fun h' oc' F₂ N₂ hd₂ => turn i I m' nw' v oI oc' h' tk E' hi hI hv F₂ N₂ hd₂ off'.2 off'.1 off _ _
  · rintro m' nw h tk ⟨oc, nw', vv, rfl, hd, off, hI⟩ F' N'
    exact done m' nw' oc vv h tk hI F' N' hd off
end

section
open LCg PySem.Calls
abbrev RowsL (rs : List (Addr × List Value × Nat)) : List (Addr × Obj) := rs.map fun r => (r.1, listOf r.2.1.toArray r.2.2)
def FarInv (rest : List (Addr × Obj)) (i : Nat) (ys : List Value) (nw : List (Addr × Obj)) : Prop :=
  ∃ rs : List (Addr × List Value × Nat), rs.length = i ∧ ys = (rs.map fun r => Value.ref r.1).reverse ∧ nw = RowsL rs ++ rest ∧ (∀ r ∈ rs, IntsAre r.2.1 [0, 0, 0, 0, 0, 0, 0, 0]) ∧ (rs.map (·.1)).Nodup ∧ ∀ r ∈ rs, ∀ p ∈ rest, p.1 ≠ r.1
theorem farInv0 (rest : List (Addr × Obj)) : FarInv rest 0 [] rest := ⟨[], rfl, rfl, rfl, (fun _ h => nomatch h), List.nodup_nil, (fun _ h => nomatch h)⟩
theorem allLt_mem {D : Addr} : ∀ {l : List (Addr × Obj)}, AllLt D l → ∀ p ∈ l, p.1 < D
  | [], _, _, h => nomatch h
  | _ :: _, x, p, h => by
    rcases List.mem_cons.mp h with rfl | h
    · exact x.1
    · exact allLt_mem x.2 p h
theorem far_end {h₀ : Heap} {L : Addr} {m : Str → Option Value} {s : Shared} {h' : Heap} {tk' : Nat} {D' l' I C D D5 : Addr} {o oI oC : Obj} {its wvs ys : List Value} {nw rest : List (Addr × Obj)} {i : Nat}
    (l1 : l' < D' ∧ I < D' ∧ C < D' ∧ D < D' ∧ AllLt D' nw) (F : Fr h₀ L h' m) (N : News h₀ L h' ((D', listOf its.toArray 0) :: (l', o) :: (I, oI) :: (C, oC) :: (D, lst ys) :: nw)) (off : Off3 I C D nw)
    (hI : FarInv ((D5, lst wvs) :: rest) i ys nw) (i1 : IntsAre its [0, 0, 0, 0, 0, 0, 0, 0]) :
    CompEnd h₀ L m s I oI C oC D (lst ys) (SrcAt h₀ D5 wvs.toArray) (fun y nw' => FarInv ((D5, lst wvs) :: rest) (i + 1) (ys ++ [y]) nw') (.ref D') { s with heap := h', toks := tk' } := by
  obtain ⟨rs, hrl, hys, hnw, hri, hnd, hap⟩ := hI
  have hlt := allLt_mem l1.2.2.2.2
  refine CompEnd.intro F N ((D', listOf its.toArray 0) :: nw) ?_ ⟨⟨Ne.symm (Nat.ne_of_lt l1.2.1), Ne.symm (Nat.ne_of_lt l1.2.2.1), Ne.symm (Nat.ne_of_lt l1.2.2.2.1)⟩, off⟩ (.inr ⟨_, .tail _ (by rw [hnw]; exact List.mem_append_right _ (.head _)), rfl, _, rfl⟩)
    ⟨(D', its, 0) :: rs, by rw [List.length_cons, hrl], by rw [hys, List.map_cons, List.reverse_cons], by rw [hnw]; rfl, ?_, ?_, ?_⟩
  · intro p hp
    simp only [List.mem_cons] at hp ⊢
    rcases hp with h | h | h | h | h <;> simp [h]
  · intro r hr
    rcases List.mem_cons.mp hr with rfl | hr
    · exact i1
    · exact hri r hr
  · rw [List.map_cons, List.nodup_cons]
    refine ⟨fun hm => ?_, hnd⟩
    obtain ⟨r, hr, e⟩ := List.mem_map.mp hm
    have := hlt (r.1, listOf r.2.1.toArray r.2.2) (by rw [hnw]; exact List.mem_append_left _ (List.mem_map.mpr ⟨r, hr, rfl⟩))
    exact absurd e (Nat.ne_of_lt this)
  · intro r hr p hp
    rcases List.mem_cons.mp hr with rfl | hr
    · exact Nat.ne_of_lt (hlt p (by rw [hnw]; exact List.mem_append_right _ hp))
    · exact hap r hr p hp
/-- row i when the places below (x, y) are filled -/
def TT (x y i : Nat) : List Int := (List.range 8).map fun j => if (i < x ∧ j < x) ∨ (i = x ∧ j < y) ∨ (j = x ∧ i < y) then dist i j else 0
structure RowsAre (rs : List (Addr × List Value × Nat)) (as : List Addr) (T : Nat → List Int) : Prop where
  addr : rs.map (·.1) = as
  len : as.length = 8
  vals : ∀ i vs n a, rs[i]? = some (a, vs, n) → IntsAre vs (T i)
theorem RowsAre.at {rs : List (Addr × List Value × Nat)} {as : List Addr} {T : Nat → List Int} (R : RowsAre rs as T) {i : Nat} (hi : i < 8) : ∃ vs n, rs[i]? = some (as.getD i 0, vs, n) ∧ IntsAre vs (T i) := by
  have hl : i < rs.length := by rw [← List.length_map (f := (·.1)), R.addr, R.len]; exact hi
  obtain ⟨a, vs, n⟩ : Addr × List Value × Nat := rs[i]
  cases e : rs[i] with
  | mk a q =>
    obtain ⟨vs, n⟩ := q
    have h1 : rs[i]? = some (a, vs, n) := by rw [List.getElem?_eq_getElem hl, e]
    refine ⟨vs, n, ?_, R.vals i vs n a h1⟩
    rw [h1, ← R.addr, List.getD_eq_getElem?_getD, List.getElem?_map, h1]
    rfl
theorem upd_mk {d : Addr} {o o' : Obj} : ∀ {l1 l2 : List (Addr × Obj)}, (∀ p ∈ l1, p.1 ≠ d) → (∀ p ∈ l2, p.1 ≠ d) → Upd d o o' (l1 ++ (d, o) :: l2) (l1 ++ (d, o') :: l2)
  | [], _, _, h => .head h
  | q :: l1, _, h1, h => .tail (h1 q (.head _)) (upd_mk (fun p hp => h1 p (.tail _ hp)) h)
theorem TT_len (x y i : Nat) : (TT x y i).length = 8 := by simp [TT]
theorem TT_at (x y i : Nat) {j : Nat} (hj : j < 8) : (TT x y i).getD j 0 = if (i < x ∧ j < x) ∨ (i = x ∧ j < y) ∨ (j = x ∧ i < y) then dist i j else 0 := by
  unfold TT
  rw [List.getD_eq_getElem?_getD, List.getElem?_map, List.getElem?_range hj]
  rfl
theorem row_in {rs : List (Addr × List Value × Nat)} {i : Nat} {a : Addr} {vs : List Value} {n : Nat} (h : rs[i]? = some (a, vs, n)) : (a, listOf vs.toArray n) ∈ RowsL rs :=
  List.mem_map.mpr ⟨_, List.mem_of_getElem? h, rfl⟩
variable {prog : Program} {w : World} {A : Around} {E : Value → Shared → Prop} {s : Shared} {h₀ : Heap} {L : Addr} {m : Str → Option Value} {all : List (Addr × Obj)} {rs : List (Addr × List Value × Nat)} {as : List Addr} {T : Nat → List Int} {value slice : PySem.Expr} {u : Tok}
theorem rows_item {Q : Value → Shared → Prop} (N : News h₀ L s.heap all) (R : RowsAre rs as T) (hsub : ∀ p ∈ RowsL rs, p ∈ all) {i j : Nat} (hi : i < 8) (hj : j < 8) (hT : (T i).length = 8) (h : ∀ t, Q (.int ((T i).getD j 0) t) s)
    (hs : subscripted slice false (.ref (as.getD i 0)) (.int (j : Int) u) = operate [.ref (as.getD i 0), .int (j : Int) u] (getItem (.ref (as.getD i 0)) (.int (j : Int) u)) := by with_unfolding_all rfl) :
    wpAny (model prog w) A (subscriptTail value slice (.ref (as.getD i 0)) (.int (j : Int) u)) Q E s := by
  obtain ⟨vs, n, e, hI⟩ := R.at hi
  obtain ⟨t, ht⟩ := ints_at hI (i := j) (by rw [hT]; exact hj)
  exact itemN N (hsub _ (row_in e)) (by omega) ht (h t) hs
theorem row_set {pre : List (Addr × Obj)} {Q : Unit → Shared → Prop} {v : Int} {tv : Tok} (F : Fr h₀ L s.heap m) (N : News h₀ L s.heap (pre ++ RowsL rs)) (R : RowsAre rs as T) (nd : as.Nodup) (hpre : ∀ p ∈ pre, p.1 ∉ as) {i j : Nat} (hi : i < 8) (hj : j < 8) (hT : (T i).length = 8)
    (h : ∀ h' rs', Fr h₀ L h' m → News h₀ L h' (pre ++ RowsL rs') → RowsAre rs' as (fun i' => if i' = i then (T i).set j v else T i') → Q () { s with heap := h' }) :
    wpAny (model prog w) A (setItem (.ref (as.getD i 0)) (.int (j : Int) u) (.int v tv)) Q E s := by
  obtain ⟨vs, n, e, hI⟩ := R.at hi
  have hl : i < rs.length := by rw [← List.length_map (f := (·.1)), R.addr, R.len]; exact hi
  have hvl : vs.length = 8 := by rw [hI.length, hT]
  have hspl : rs = rs.take i ++ (as.getD i 0, vs, n) :: rs.drop (i + 1) := by
    have e2 : rs[i] = (as.getD i 0, vs, n) := by rw [List.getElem?_eq_getElem hl] at e; exact Option.some.inj e
    rw [← e2, List.getElem_cons_drop, List.take_append_drop]
  have hset : rs.set i (as.getD i 0, vs.set j (.int v tv), n) = rs.take i ++ (as.getD i 0, vs.set j (.int v tv), n) :: rs.drop (i + 1) := by rw [List.set_eq_take_append_cons_drop, if_pos hl]
  have hin : as.getD i 0 ∈ as := by
    rw [List.getD_eq_getElem?_getD, List.getElem?_eq_getElem (by rw [R.len]; exact hi)]
    exact List.getElem_mem _
  have hnd := nd
  rw [← R.addr, hspl, List.map_append, List.map_cons] at hnd
  have hap := List.nodup_append.mp hnd
  have hcons := List.nodup_cons.mp hap.2.1
  have U : Upd (as.getD i 0) (listOf vs.toArray n) (listOf (vs.set j (.int v tv)).toArray n) (pre ++ RowsL rs) (pre ++ RowsL (rs.set i (as.getD i 0, vs.set j (.int v tv), n))) := by
    rw [hset]
    have hL : pre ++ RowsL rs = (pre ++ RowsL (rs.take i)) ++ (as.getD i 0, listOf vs.toArray n) :: RowsL (rs.drop (i + 1)) := by
      rw [List.append_assoc]
      congr 1
      show RowsL rs = _
      conv => lhs; rw [hspl]
      simp [RowsL]
    have hR : pre ++ RowsL (rs.take i ++ (as.getD i 0, vs.set j (.int v tv), n) :: rs.drop (i + 1)) = (pre ++ RowsL (rs.take i)) ++ (as.getD i 0, listOf (vs.set j (.int v tv)).toArray n) :: RowsL (rs.drop (i + 1)) := by
      simp [RowsL]
    rw [hL, hR]
    refine upd_mk (fun p hp => ?_) (fun p hp => ?_)
    · rcases List.mem_append.mp hp with hp | hp
      · exact fun q => hpre p hp (q ▸ hin)
      · obtain ⟨r, hr, rfl⟩ := List.mem_map.mp hp
        exact hap.2.2 _ (List.mem_map.mpr ⟨r, hr, rfl⟩) _ (.head _)
    · obtain ⟨r, hr, rfl⟩ := List.mem_map.mp hp
      exact fun q => hcons.1 (q ▸ List.mem_map.mpr ⟨r, hr, rfl⟩)
  refine ki_set F N (by omega) (by omega) ?_ U fun h' F' N' => h h' _ F' N' ⟨?_, R.len, ?_⟩
  · rw [Int.toNat_natCast]
    exact kset (by show j < vs.length; omega)
  · rw [List.map_set, R.addr]
    show as.set i (as.getD i 0) = as
    rw [List.getD_eq_getElem?_getD, List.getElem?_eq_getElem (by rw [R.len]; exact hi)]
    exact List.set_getElem_self _
  · intro i' vs' n' a' h'
    by_cases hii : i' = i
    · subst hii
      rw [List.getElem?_set_self hl] at h'
      cases h'
      rw [if_pos rfl]
      exact ints_set hI j
    · rw [List.getElem?_set_ne (Ne.symm hii)] at h'
      rw [if_neg hii]
      exact R.vals i' vs' n' a' h'
theorem RowsAre.congr {rs : List (Addr × List Value × Nat)} {as : List Addr} {T T' : Nat → List Int} (R : RowsAre rs as T) (h : ∀ i < 8, T i = T' i) : RowsAre rs as T' :=
  ⟨R.addr, R.len, fun i vs n a e => by
    have hl : i < 8 := by
      obtain ⟨hj, _⟩ := List.getElem?_eq_some_iff.mp e
      rw [← R.len, ← R.addr, List.length_map]; exact hj
    rw [← h i hl]; exact R.vals i vs n a e⟩
theorem TT_zero : ∀ i < 8, [0, 0, 0, 0, 0, 0, 0, 0] = TT 0 0 i := by decide +kernel
theorem TT_next : ∀ x < 8, ∀ i < 8, TT x x i = TT (x + 1) 0 i := by decide +kernel
theorem TT_end : ∀ i < 8, TT 8 0 i = distRow i := by decide +kernel
abbrev TU (x y i : Nat) : List Int := if i = x then (TT x y x).set y (dist x y) else TT x y i
abbrev TV (x y i : Nat) : List Int := if i = y then (TU x y y).set x (dist x y) else TU x y i
theorem TU_at : ∀ x < 8, ∀ y < x, (TU x y x).getD y 0 = dist x y := by decide +kernel
theorem TV_at : ∀ x < 8, ∀ y < x, (TV x y x).getD y 0 = dist x y := by decide +kernel
theorem TV_step : ∀ x < 8, ∀ y < x, ∀ i < 8, TV x y i = TT x (y + 1) i := by decide +kernel
theorem TU_len : ∀ x < 8, ∀ y < x, ∀ i < 8, (TU x y i).length = 8 := by decide +kernel
theorem TV_len : ∀ x < 8, ∀ y < x, ∀ i < 8, (TV x y i).length = 8 := by decide +kernel
theorem rows0 {rs : List (Addr × List Value × Nat)} (hl : rs.length = 8) (h : ∀ r ∈ rs, IntsAre r.2.1 [0, 0, 0, 0, 0, 0, 0, 0]) : RowsAre rs (rs.map (·.1)) (TT 0 0) :=
  RowsAre.congr (T := fun _ => [0, 0, 0, 0, 0, 0, 0, 0]) ⟨rfl, by rw [List.length_map, hl], fun i vs n a e => h _ (List.mem_of_getElem? e)⟩ TT_zero
theorem rows_far {news : List (Addr × Obj)} {fa : Addr} {n : Nat} {rs : List (Addr × List Value × Nat)} {as : List Addr} (R : RowsAre rs as (TT 8 0)) (hf : (fa, listOf (as.map Value.ref).toArray n) ∈ news) (hs : ∀ p ∈ RowsL rs, p ∈ news) : FarIn news fa as :=
  ⟨⟨n, hf⟩, R.len, fun i hi => by
    obtain ⟨vs, k, e, hI⟩ := (R.congr TT_end).at hi
    exact ⟨vs, k, hs _ (row_in e), hI⟩⟩
theorem nodup_rev {α : Type} {l : List α} (h : l.Nodup) : l.reverse.Nodup := by
  unfold List.Nodup at h ⊢
  rw [List.pairwise_reverse]
  exact h.imp fun q => Ne.symm q
theorem far_done {rest nw : List (Addr × Obj)} {ys : List Value} {D7 : Addr} {h : Heap} (hI : FarInv rest 8 ys nw) (N : News h₀ L h ((D7, lst ys) :: nw)) (o : Off1 D7 nw) :
    ∃ (rr : List (Addr × List Value × Nat)) (as : List Addr), ys = as.map Value.ref ∧ RowsAre rr as (TT 0 0) ∧ as.Nodup ∧ (∀ p ∈ rest, p.1 ∉ as) ∧ D7 ∉ as ∧ News h₀ L h ((D7, lst (as.map Value.ref)) :: (rest ++ RowsL rr)) ∧ ∀ p ∈ rest, p.1 ≠ D7 := by
  obtain ⟨rs, hrl, hys, hnw, hri, hnd, hap⟩ := hI
  have hm : ∀ a, a ∈ rs.reverse.map (·.1) → ∃ r ∈ rs, r.1 = a := fun a ha => by
    obtain ⟨r, hr, e⟩ := List.mem_map.mp ha
    exact ⟨r, List.mem_reverse.mp hr, e⟩
  have hof : ∀ {l : List (Addr × Obj)}, Off1 D7 l → ∀ p ∈ l, p.1 ≠ D7 := by
    intro l
    induction l with
    | nil => intro _ p hp; nomatch hp
    | cons q l ih =>
      intro x p hp
      rcases List.mem_cons.mp hp with rfl | hp
      · exact x.1
      · exact ih x.2 p hp
  have hof := hof o
  have hy : ys = (rs.reverse.map (·.1)).map Value.ref := by rw [hys, List.map_map, List.map_reverse]; rfl
  refine ⟨rs.reverse, rs.reverse.map (·.1), hy, rows0 (by rw [List.length_reverse, hrl]) (fun r hr => hri r (List.mem_reverse.mp hr)), by rw [List.map_reverse]; exact nodup_rev hnd, fun p hp hq => ?_, fun hq => ?_, fun p hp => ?_, fun p hp => hof p (by rw [hnw]; exact List.mem_append_right _ hp)⟩
  · obtain ⟨r, hr, e⟩ := hm _ hq
    exact hap r hr p hp e.symm
  · obtain ⟨r, hr, e⟩ := hm _ hq
    exact hof (r.1, listOf r.2.1.toArray r.2.2) (by rw [hnw]; exact List.mem_append_left _ (List.mem_map.mpr ⟨r, hr, rfl⟩)) e
  · refine N p ?_
    rw [← hy] at hp
    rcases List.mem_cons.mp hp with rfl | hp
    · exact .head _
    · refine .tail _ ?_
      rw [hnw]
      rcases List.mem_append.mp hp with hp | hp
      · exact List.mem_append_right _ hp
      · obtain ⟨r, hr, e⟩ := List.mem_map.mp hp
        exact List.mem_append_left _ (List.mem_map.mpr ⟨r, List.mem_reverse.mp hr, e⟩)
theorem perm_x {h : Heap} {e7 e5 e4 e3 c1 c2 c3 c4 c5 c6 c7 c8 : Addr × Obj} {r : List (Addr × Obj)} (N : News h₀ L h (e7 :: ([e5, e4, e3, c1, c2, c3, c4, c5, c6, c7, c8] ++ r))) :
    News h₀ L h (c8 :: c6 :: ([e7, e5, e4, e3, c7, c1, c2, c3, c4, c5] ++ r)) := by
  intro p hp
  refine N p ?_
  simp only [List.mem_cons, List.mem_append, List.not_mem_nil, or_false] at hp ⊢
  rcases hp with h | h | (h | h | h | h | h | h | h | h | h | h) | h <;> simp [h]
theorem off_all {D : Addr} : ∀ {l : List (Addr × Obj)}, (∀ p ∈ l, p.1 ≠ D) → Off1 D l
  | [], _ => trivial
  | _ :: _, h => ⟨h _ List.mem_cons_self, off_all fun p hp => h p (List.mem_cons_of_mem _ hp)⟩
theorem off_rows {c : Addr} (R : RowsAre rs as T) (h : c ∉ as) : Off1 c (RowsL rs) := off_all fun p hp q => by
  obtain ⟨r, hr, rfl⟩ := List.mem_map.mp hp
  exact h (by rw [← R.addr, ← q]; exact List.mem_map.mpr ⟨r, hr, rfl⟩)
theorem perm_y {h : Heap} {i x y : Addr × Obj} {r : List (Addr × Obj)} (N : News h₀ L h (i :: x :: y :: r)) : News h₀ L h (y :: i :: x :: r) := by
  intro p hp
  refine N p ?_
  simp only [List.mem_cons] at hp ⊢
  rcases hp with h | h | h | h <;> simp [h]
theorem rng_small8 : ∀ i : Nat, i < 8 → PySem.Builtin.Range.small 0 (i : Int) 1 = true := by decide +kernel
theorem rng_size8 : ∀ i : Nat, i < 8 → PySem.Builtin.Range.rangeSize 0 (i : Int) 1 = ((i : Nat) : Int) := by decide +kernel
theorem off1_addr {c : Addr} : ∀ {l l' : List (Addr × Obj)}, Off1 c l → l.map (·.1) = l'.map (·.1) → Off1 c l'
  | [], [], _, _ => trivial
  | [], _ :: _, _, e => by simp at e
  | _ :: _, [], _, e => by simp at e
  | a :: l, b :: l', h, e => by
    simp only [List.map_cons, List.cons.injEq] at e
    exact ⟨e.1 ▸ h.1, off1_addr h.2 e.2⟩
theorem rows_addr {rs rs2 : List (Addr × List Value × Nat)} {T T2 : Nat → List Int} (R : RowsAre rs as T) (R2 : RowsAre rs2 as T2) : (RowsL rs).map (·.1) = (RowsL rs2).map (·.1) := by
  have e := R.addr.trans R2.addr.symm
  have k : ∀ r : List (Addr × List Value × Nat), (RowsL r).map (·.1) = r.map (·.1) := fun r => by
    simp only [RowsL, List.map_map]; rfl
  rw [k, k, e]
theorem perm_x2 {i x y : Addr × Obj} {r : List (Addr × Obj)} : ∀ p ∈ i :: x :: y :: r, p ∈ y :: i :: x :: r := by
  intro p hp
  simp only [List.mem_cons] at hp ⊢
  rcases hp with h | h | h | h <;> simp [h]
theorem off_not {c : Addr} {rs : List (Addr × List Value × Nat)} {T : Nat → List Int} (R : RowsAre rs as T) (h : Off1 c (RowsL rs)) : c ∉ as := fun hc => by
  rw [← R.addr] at hc
  obtain ⟨r, hr, e⟩ := List.mem_map.mp hc
  exact off1_mem h _ (List.mem_map.mpr ⟨r, hr, rfl⟩) e
theorem par_0 : ∀ x : Nat, x < 8 → ∀ y : Nat, y < 8 → ((x : Int).fdiv 1 + (y : Int).fdiv 1).fmod 2 = (((x / 2 ^ 0 + y / 2 ^ 0) % 2 : Nat) : Int) := by decide +kernel
theorem par_1 : ∀ x : Nat, x < 8 → ∀ y : Nat, y < 8 → ((x : Int).fdiv 2 + (y : Int).fdiv 2).fmod 2 = (((x / 2 ^ 1 + y / 2 ^ 1) % 2 : Nat) : Int) := by decide +kernel
theorem par_2 : ∀ x : Nat, x < 8 → ∀ y : Nat, y < 8 → ((x : Int).fdiv 4 + (y : Int).fdiv 4).fmod 2 = (((x / 2 ^ 2 + y / 2 ^ 2) % 2 : Nat) : Int) := by decide +kernel
def pars (x y : Nat) : List Int := (List.range 3).map fun k => (((x / 2 ^ k + y / 2 ^ k) % 2 : Nat) : Int)
theorem pars_at (x y : Nat) {k : Nat} (hk : k < 3) : (pars x y).getD k 0 = (((x / 2 ^ k + y / 2 ^ k) % 2 : Nat) : Int) := by
  unfold pars
  rw [List.getD_eq_getElem?_getD, List.getElem?_map, List.getElem?_range hk]
  rfl
theorem pars_ints {zs : List Value} {x y : Nat} (hl : zs.length = 3) (h : RelL (fun k v => ∃ t, v = .int (((x / 2 ^ k + y / 2 ^ k) % 2 : Nat) : Int) t) zs) : IntsAre zs (pars x y) := by
  refine relL_ints (hl.trans (by simp [pars])) fun j hj => ?_
  obtain ⟨v, e, t, r⟩ := h j hj
  exact ⟨v, e, t, by rw [pars_at x y (hl ▸ hj)]; exact r⟩
theorem pars_sum : ∀ x : Nat, x < 8 → ∀ y : Nat, y < x → 2 * (pars x y).sum = dist x y := by decide +kernel
end

open LCg
section
variable {prog : Program} {w : World} {A : Around} {E : Value → Shared → Prop} {s : Shared} {h₀ : Heap} {L : Addr} {news : List (Addr × Obj)} {value slice : PySem.Expr} {u : Tok} {Q : Value → Shared → Prop}
theorem strs_at : ∀ {vs : List Value} {ss : List Str}, StrsAre vs ss → ∀ i, i < ss.length → ∃ t, vs[i]? = some (.str (ss.getD i Str.empty) t)
  | _, _, .nil, i, h => by simp at h
  | _, _, .cons y t r, 0, _ => ⟨t, rfl⟩
  | _, _, .cons y t r, i + 1, h => by
    obtain ⟨t', e⟩ := strs_at r i (by simpa using h)
    exact ⟨t', by simpa using e⟩
theorem word_item {l : Addr} {wzs : List Value} {z : Nat} (N : News h₀ L s.heap news) (hm : (l, lst wzs) ∈ news) (hw : StrsAre wzs words8) (hz : z < 8) (h : ∀ t, Q (.str (sub z 0 3) t) s)
    (hs : subscripted slice false (.ref l) (.int (z : Int) u) = operate [.ref l, .int (z : Int) u] (getItem (.ref l) (.int (z : Int) u)) := by with_unfolding_all rfl) :
    wpAny (model prog w) A (subscriptTail value slice (.ref l) (.int (z : Int) u)) Q E s := by
  obtain ⟨t, e⟩ := strs_at hw z (by simpa [words8] using hz)
  rw [words_at hz] at e
  exact itemN N hm (by omega) e (h t) hs
theorem int_item {l : Addr} {zs : List Value} {ns : List Int} {z : Nat} (N : News h₀ L s.heap news) (hm : (l, lst zs) ∈ news) (hw : IntsAre zs ns) (hz : z < ns.length) (h8 : z < 256) (h : ∀ t, Q (.int (ns.getD z 0) t) s)
    (hs : subscripted slice false (.ref l) (.int (z : Int) u) = operate [.ref l, .int (z : Int) u] (getItem (.ref l) (.int (z : Int) u)) := by with_unfolding_all rfl) :
    wpAny (model prog w) A (subscriptTail value slice (.ref l) (.int (z : Int) u)) Q E s := by
  obtain ⟨t, e⟩ := ints_at hw hz
  exact itemN N hm h8 e (h t) hs
theorem row_item {l : Addr} {as : List Addr} {x : Nat} (N : News h₀ L s.heap news) (hm : (l, lst (as.map Value.ref)) ∈ news) (hx : x < as.length) (h8 : x < 256) (h : Q (.ref (as.getD x 0)) s)
    (hs : subscripted slice false (.ref l) (.int (x : Int) u) = operate [.ref l, .int (x : Int) u] (getItem (.ref l) (.int (x : Int) u)) := by with_unfolding_all rfl) :
    wpAny (model prog w) A (subscriptTail value slice (.ref l) (.int (x : Int) u)) Q E s := by
  refine itemN N hm h8 ?_ h hs
  rw [List.getElem?_map, List.getElem?_eq_getElem hx, List.getD_eq_getElem?_getD, List.getElem?_eq_getElem hx]
  rfl
theorem casts_at (ds : List Nat) (i : Nat) : (ds.map fun d => ((d : Nat) : Int)).getD i 0 = ((ds.getD i 0 : Nat) : Int) := by
  rw [List.getD_eq_getElem?_getD, List.getD_eq_getElem?_getD, List.getElem?_map]
  cases ds[i]? <;> rfl
theorem draw_item {l : Addr} {zs : List Value} {ds : List Nat} {z : Nat} (N : News h₀ L s.heap news) (hm : (l, lst zs) ∈ news) (hw : IntsAre zs (ds.map fun d => ((d : Nat) : Int))) (hz : z < ds.length) (h8 : z < 256) (h : ∀ t, Q (.int ((ds.getD z 0 : Nat) : Int) t) s)
    (hs : subscripted slice false (.ref l) (.int (z : Int) u) = operate [.ref l, .int (z : Int) u] (getItem (.ref l) (.int (z : Int) u)) := by with_unfolding_all rfl) :
    wpAny (model prog w) A (subscriptTail value slice (.ref l) (.int (z : Int) u)) Q E s :=
  int_item N hm hw (by simpa using hz) h8 (fun t => by rw [casts_at]; exact h t) hs
theorem rel_casts {zs : List Value} {bs : List Nat} (hr : RelL (fun j v => ∃ i, bs[j]? = some i ∧ ∃ t, v = .int (i : Int) t) zs) (hl : zs.length = bs.length) : IntsAre zs (bs.map fun d => ((d : Nat) : Int)) := by
  refine relL_ints (by simpa using hl) fun j hj => ?_
  obtain ⟨v, e, i, e2, t, r⟩ := hr j hj
  exact ⟨v, e, t, by rw [casts_at, List.getD_eq_getElem?_getD, e2]; exact r⟩
theorem dlt8 (n : Nat) : decide ((n : Int) < 8) = decide (n < 8) := by
  rw [decide_eq_decide]; omega
theorem perm4 {h : Heap} {a b c d : Addr × Obj} {r : List (Addr × Obj)} (N : News h₀ L h (a :: b :: c :: d :: r)) : News h₀ L h (d :: a :: b :: c :: r) := by
  intro p hp
  refine N p ?_
  simp only [List.mem_cons] at hp ⊢
  rcases hp with h | h | h | h | h <;> simp [h]
theorem perm22 {a b c d : Addr × Obj} {r : List (Addr × Obj)} : ∀ p ∈ a :: b :: c :: d :: r, p ∈ c :: d :: a :: b :: r := by
  intro p hp
  simp only [List.mem_cons] at hp ⊢
  rcases hp with h | h | h | h | h <;> simp [h]
def posOf (k : Int) : List Int → Option Nat
  | [] => none
  | a :: r => cond (a == k) (some 0) (match posOf k r with
    | some j => some (j + 1)
    | none => none)
theorem kfints_of : ∀ {vs : List Value} {ns : List Int}, IntsAre vs ns → kf_ints vs = true
  | _, _, .nil => rfl
  | _, _, .cons _ _ r => by
    have := kfints_of r
    exact this
theorem kfat_of (k : Int) : ∀ {vs : List Value} {ns : List Int}, IntsAre vs ns → kf_at k vs = posOf k ns
  | _, _, .nil => rfl
  | _, _, .cons a t r => by
    unfold kf_at posOf
    rw [kfat_of k r]
    rfl
theorem six_at : ∀ z < 8, posOf 6 (distRow z) = some (7 - z) := by decide +kernel
theorem map_id (mm : Str → Option Value) (t : Str) : mm = fun z => if z = t then mm t else mm z := by
  funext z
  by_cases h : z = t
  · rw [if_pos h, h]
  · rw [if_neg h]
theorem map_over (mm : Str → Option Value) (t : Str) (v o : Option Value) : (fun z => if z = t then v else if z = t then o else mm z) = fun z => if z = t then v else mm z := by
  funext z
  by_cases h : z = t
  · rw [if_pos h, if_pos h]
  · rw [if_neg h, if_neg h, if_neg h]
theorem fr_map {h : Heap} {m : Str → Option Value} (F : Fr h₀ L h m) : ∃ mm, mm = m ∧ Fr h₀ L h mm := ⟨m, rfl, F⟩
theorem take_next (bs : List Nat) {i : Nat} (h : i < bs.length) : bs.take (i + 1) = bs.take i ++ [bs.getD i 0] := by
  rw [List.take_succ_eq_append_getElem h, List.getD_eq_getElem?_getD, List.getElem?_eq_getElem h]
  rfl
theorem getD_in (bs : List Nat) {i : Nat} (h : i < bs.length) : bs.getD i 0 ∈ bs := by
  rw [List.getD_eq_getElem?_getD, List.getElem?_eq_getElem h]
  exact List.getElem_mem _
theorem off_lt {D : Addr} {l : List (Addr × Obj)} (h : AllLt D l) : Off1 D l := off_all fun p hp => Nat.ne_of_lt (allLt_mem h p hp)
theorem shelf_nil (f : Nat → Nat) : IntsAre [] (shelf (foldM [] f 0)) := by
  have : shelf (foldM [] f 0) = [] := by show shelf 0 = []; decide
  rw [this]
  exact .nil
theorem red_eq (ds : List Nat) : (!decide (shelf (redM ds) = shelf (wingM (bodies ds) ds 0 8))) = false := by
  rw [show wingM (bodies ds) ds 0 8 = redM ds from red_is bodies_in]
  simp
theorem yel_eq (ds : List Nat) : (!decide (shelf (yelM ds) = shelf (wingM (bodies ds) ds 7 8))) = false := by
  rw [show wingM (bodies ds) ds 7 8 = yelM ds from yel_is bodies_in]
  simp
theorem mid_in {pre post : List (Addr × Obj)} {q : Addr × Obj} : ∀ p ∈ q :: (pre ++ post), p ∈ pre ++ q :: post := by
  intro p hp
  rcases List.mem_cons.mp hp with rfl | hp
  · exact List.mem_append.mpr (.inr (.head _))
  · rcases List.mem_append.mp hp with hp | hp
    · exact List.mem_append.mpr (.inl hp)
    · exact List.mem_append.mpr (.inr (.tail _ hp))
theorem mid_out {pre post : List (Addr × Obj)} {q : Addr × Obj} : ∀ p ∈ pre ++ q :: post, p ∈ q :: (pre ++ post) := by
  intro p hp
  rcases List.mem_append.mp hp with hp | hp
  · exact .tail _ (List.mem_append.mpr (.inl hp))
  · rcases List.mem_cons.mp hp with rfl | hp
    · exact .head _
    · exact .tail _ (List.mem_append.mpr (.inr hp))
theorem perm_mid {h : Heap} {pre post : List (Addr × Obj)} {q : Addr × Obj} (N : News h₀ L h (pre ++ q :: post)) : News h₀ L h (q :: (pre ++ post)) := fun p hp => N p (mid_in p hp)
theorem bool_item {l : Addr} {zs : List Value} {f : Nat → Bool} {z : Nat} (N : News h₀ L s.heap news) (hm : (l, lst zs) ∈ news) (hw : RelL (fun i v => v = .bool (f i)) zs) (hz : z < zs.length) (h8 : z < 256) (h : Q (.bool (f z)) s)
    (hs : subscripted slice false (.ref l) (.int (z : Int) u) = operate [.ref l, .int (z : Int) u] (getItem (.ref l) (.int (z : Int) u)) := by with_unfolding_all rfl) :
    wpAny (model prog w) A (subscriptTail value slice (.ref l) (.int (z : Int) u)) Q E s := by
  obtain ⟨v, e, r⟩ := hw z hz
  subst r
  exact itemN N hm h8 e h hs
theorem num_in {nzs : List Value} (hn : IntsAre nzs nums) {i : Nat} {v : Value} (hi : i < 8) (e : nzs.toArray[i]? = some v) : ∃ t, v = .int (num i) t := by
  obtain ⟨t, q⟩ := ints_at hn (i := i) (by simpa [nums] using hi)
  rw [List.getElem?_toArray, q, nums_at hi] at e
  exact ⟨t, (Option.some.inj e).symm⟩
theorem nums_len {nzs : List Value} (hn : IntsAre nzs nums) : nzs.length = 8 := by rw [hn.length]; rfl
theorem len_led {l : Addr} {zs : List Value} (N : News h₀ L s.heap news) (hm : (l, lst zs) ∈ news) (hz : zs.length ≤ 8) (h : Q (.int ((zs.length : Nat) : Int) (s.toks + 1)) { s with toks := s.toks + 1 + 1 }) :
    wpAny (model prog w) A (call (.builtin "len") [.ref l]) Q E s := by
  refine PyProof.Rows.len_list (PySem.IsL.isList (n := zs.length) (N _ hm).1) ?_ ?_
  · rw [List.size_toArray]; omega
  · rw [List.size_toArray]
    exact h
theorem filt_le (b : Nat → Bool) : ((List.range 8).filter b).length ≤ 8 := by
  have := List.length_filter_le b (List.range 8)
  simpa using this
theorem tests_le (ds : List Nat) {i : Nat} (hi : i < 8) : ¬ (((((List.range 8).filter fun x => (redM ds).testBit x && (yelM ds).testBit (x ^^^ i)).length : Nat) : Int) < (((bodies ds).length : Nat) : Int)) := by
  have := law_true ds hi
  omega
end

section
open LCg LCt PySem.Calls
variable {prog : Program} {w : World} {A : Around} {E : Value → Shared → Prop} {s : Shared} {h₀ : Heap} {L : Addr} {m : Str → Option Value} {env : Env}
abbrev tupO (its : Array Value) (k : Nat) : Obj := { cls := .type "tuple", data := .seq its k }
def SrcT (prog : Program) (w : World) (A : Around) (h₀ : Heap) (L : Addr) (m : Str → Option Value) (env : Env) (elt : PySem.Expr) (x : Str) (scope : Scope) (cl : List (Str × Addr)) (Fin : Shared → List Value → List (Addr × Obj) → Prop) (xv : Value) (s₁ : Shared) : Prop :=
  ∃ ax its k news, xv = .ref ax ∧ A.handled = none ∧ Fr h₀ L s₁.heap m ∧ News h₀ L s₁.heap news ∧ (ax, tupO its k) ∈ news ∧ its.size ≤ sizeLine ∧
    ∀ s₂ : Shared, (∃ h, s₂ = { s₁ with heap := h }) → CompRest prog w A h₀ L m env elt x scope cl s₂ (fun nw => (ax, tupO its k) ∈ nw) (fun i v => its[i]? = some v) (Fin s₂) its.size 0 [] news
theorem SrcT.ledger {elt : PySem.Expr} {x : Str} {scope : Scope} {cl : List (Str × Addr)} {Fin : Shared → List Value → List (Addr × Obj) → Prop} {ax : Addr} {its : Array Value} {k : Nat} {news : List (Addr × Obj)} {s₁ : Shared}
    (hh : A.handled = none) (F : Fr h₀ L s₁.heap m) (N : News h₀ L s₁.heap news) (hm : (ax, tupO its k) ∈ news) (hsz : its.size ≤ sizeLine)
    (h : ∀ g, CompRest prog w A h₀ L m env elt x scope cl { s₁ with heap := g } (fun nw => (ax, tupO its k) ∈ nw) (fun i v => its[i]? = some v) (Fin { s₁ with heap := g }) its.size 0 [] news) :
    SrcT prog w A h₀ L m env elt x scope cl Fin (.ref ax) s₁ := ⟨ax, its, k, news, rfl, hh, F, N, hm, hsz, fun _ ⟨g, e⟩ => e ▸ h g⟩
theorem tup_st {ax I : Addr} {its : Array Value} {k : Nat} : ∀ i (h h' : Heap) (o : Obj) (nw : List (Addr × Obj)), (h.IsTupleIter I ax i ∧ h.IsTuple ax its) → h.get? I = some o → h'.get? I = some o → (∀ b o, h₀.get? b = some o → h'.get? b = some o) → News h₀ L h' nw → (ax, tupO its k) ∈ nw → (h'.IsTupleIter I ax i ∧ h'.IsTuple ax its) :=
  fun i h h' o nw st e e' _ N hm => ⟨by obtain ⟨o', q, r⟩ := st.1; rw [e] at q; cases q; exact ⟨o, e', r⟩, ⟨_, (N _ hm).1, rfl, _, rfl⟩⟩
theorem ListComp_tup {elt iter : PySem.Expr} {x : Str} {px : Pos} {scope : Scope} {cl : List (Str × Addr)} {pos : Pos} {Q : Value → Shared → Prop} (F₀ : Fr h₀ L s.heap m)
    (hclos : closureFor scope env = pure cl) (hcell : ∀ y ∈ scope.names, y.2 ≠ .cell) (hkind : scope.kind = .function)
    (hnames : ∀ y ∈ scope.names, y.2 = .local → scope.names.lookup y.1 = some .local) (hx : scope.names.lookup x = some .local)
    (h : wpAny (model prog w) A (eval iter env) (SrcT prog w A h₀ L m env elt x scope cl (fun s₂ => FinE h₀ L m s₂ Q)) E s)
    (hs : ∀ x, foldedSetIterable iter env x = pure x := by intro _; rfl) :
    wpAny (model prog w) A (eval (.ListComp elt [⟨.Name x px, iter, [], 0⟩] scope pos) env) Q E s := by
  rw [eval_ListComp]
  refine wpAny_comprehension_free (use := none) rfl hs hclos hkind hnames (wpAny_mono h (fun xv s₁ h₁ => ?_) fun _ _ e => e)
  obtain ⟨ax, its, k, news, rfl, hh, F, N, hm, hsz, R⟩ := h₁
  have hl : s₁.heap.IsTuple ax its := ⟨_, (N _ hm).1, rfl, _, rfl⟩
  have hlt : ax < s₁.heap.objs.size := Heap.lt_size (N _ hm).1
  refine wpAny_pyIter_tuple hl ?_
  have up : ∀ b o, s₁.heap.get? b = some o → (s₁.heap.push { cls := .type "tuple_iterator", data := .fields #[.ref ax, .int 0 0] }).get? b = some o := fun b o e => Heap.get?_push_of_some _ e
  refine block_U (Walks.tuple hh s₁.heap.objs.size ax (Nat.ne_of_lt hlt) its) hsz (fun i h st => by obtain ⟨o, e, _⟩ := st.1; exact ⟨o, e⟩) tup_st hcell hkind hx ⟨⟨_, Heap.get?_push_size _ rfl, rfl, rfl⟩, ⟨_, up _ _ (N _ hm).1, rfl, _, rfl⟩⟩ (fun b hb => ?_)
    (F.keeps up) (N.grown up) (Nat.ne_of_lt F.ns.lt) (next_is_new F) (fun p hp => Nat.ne_of_lt (Heap.lt_size (N p hp).1)) hm (R _ ⟨_, rfl⟩) ?_
  · show b < (s₁.heap.push _).objs.size
    rw [Heap.size_push]
    rcases List.mem_cons.mp hb with rfl | hb
    · exact Nat.lt_succ_self _
    · rw [List.mem_singleton.mp hb]; exact Nat.lt_succ_of_lt hlt
  · intro D C h tk m' ys news' F' N' o1 hn hC₀ hD₀ hCL hDL hCD offC fin
    refine ⟨m', hn, fun h'' hs'' => fin D h'' tk (F'.change hs'' hCL hC₀) (fun p hp => ?_) o1⟩
    refine ⟨hs''.extBut _ _ ?_ (N' p hp).1, (N' p hp).2⟩
    rcases List.mem_cons.mp hp with rfl | hp
    · exact Ne.symm hCD
    · exact offC p hp
end

structure Box (G : Prop) : Prop where
  out : G
set_option maxRecDepth 100000 in
set_option maxHeartbeats 800000 in
def P1 : { G : Prop // Box G → PySem.Challenge.rw_sr0022_01.Holds } := ⟨_, fun K => by
  apply Mine.hd
  w_top on
  w_on
  k_with_none
  k_with "subscriptTail List cons Slice ref ref" => (refine Stop.out ?_)
  k_with "binaryOp Add ref ref" => (refine Stop.out ?_)
  k_with "eval ListComp" => (refine Stop.out ?_)
  k_go0
  all_goals (try k_fold)
  k_steps
  unfold Stop
  have lF' := ‹Fr _ _ _ _›
  refine' LCg.ListComp_U lF' ?c1 ?c2 ?c3 ?c4 ?c5 ?_
  case c1 => with_unfolding_all rfl
  case c2 => decide
  case c3 => rfl
  case c4 => decide
  case c5 => rfl
  clear lF'
  k_with "CompSrc" => (refine Stop.out ?_)
  k_steps
  unfold Stop
  rename Fr _ _ _ _ => lF'
  rename News _ _ _ _ => lN'
  refine' slice_from (s := ⟨_, _, _, _, _⟩) (ns := dflt8) lF' lN' ?mem ?i ?z ?_
  case mem => k_mem
  case i => exact ints_dflt _ _ _ _ _ _ _ _
  case z => exact Nat.le_of_ble_eq_true rfl
  clear lF' lN'
  intro D1 ws1 h1 F1 N1 hl1 hI1
  try k_lt hl1
  try dsimp only
  try k_fold
  k_steps
  unfold Stop
  rename Fr _ _ _ _ => lF'
  rename News _ _ _ _ => lN'
  refine' add_two lF' lN' ?m1 ?m2 ?hi hI1 ?z ?_
  case m1 => k_mem
  case m2 => k_mem
  case hi => assumption
  case z => (simp only [List.length_drop, List.length_take, dflt8, List.length_cons, List.length_nil]; omega)
  clear lF' lN'
  intro D2 ws2 h2 F2 N2 hl2 hI2
  try k_lt hl2
  try dsimp only
  try k_fold
  k_steps
  unfold Stop
  refine' LCg.CompSrc.ledger rfl F2 N2 (.head _) ?sz ?_
  case sz => (rw [List.size_toArray, hI2.length, sizeLine_eq, scr8_len]; decide)
  intro g
  obtain ⟨xs, hI3, hxl⟩ : ∃ xs, IntsAre ws2 xs ∧ xs.length = 8 := ⟨_, hI2, scr8_len _⟩
  obtain ⟨ds, hdl, hd16, hxd⟩ := mods xs hxl
  clear F2 N2
  k_with "EltEnd" => (refine Stop.out ?_)
  refine' rest_rel (fun i v => ∃ t, v = .int ((ds.getD i 0 : Nat) : Int) t) (.inr ⟨_, .head _, rfl, _, rfl⟩) ?fin ?step
  case step =>
    intro i ys v I oI C oC D m₂ h tk E' hi hys hP hC hx F9 N9 off9 ne9
    rw [List.size_toArray, hI3.length, hxl] at hi
    obtain ⟨t9, hq9⟩ := ints_at hI3 (i := i) (by omega)
    rw [List.getElem?_toArray, hq9] at hP
    have hP' := (Option.some.inj hP).symm
    subst hP'
    clear hP
    try dsimp only
    try simp only [LCg.Off3, and_true] at off9
    try k_fold
    k_steps
    unfold Stop
    refine EltEnd.intro F9 (by assumption) (fun p hp => hp) ⟨_, congrArg (fun z => Value.int z _) ?_⟩
    rw [Int.fmod_eq_emod_of_nonneg _ (by decide), hxd]
  intro zs hzl hzr
  rw [List.size_toArray, hI3.length, hxl] at hzl
  have hzI := rel_nats (hzl.trans hdl.symm) hzr
  unfold LCg.FinE
  intro D3 h3 tk3 FA NA oA
  try simp only [LCg.Off1, and_true] at oA
  have NB := news_drop5 NA
  clear NA
  try dsimp only
  try k_fold
  k_with "exec Assign cons ListComp" => (refine Stop.out ?_)
  k_steps
  unfold Stop
  rename Fr _ _ _ _ => lF'
  refine' LCg.Assign_ListComp_U lF' ?c0 ?c1 ?c2 ?c3 ?c4 ?c5 ?c6 ?c7 ?c8 ?_
  case c0 => rfl
  case c1 => with_unfolding_all rfl
  case c2 => with_unfolding_all rfl
  case c3 => decide
  case c4 => rfl
  case c5 => decide
  case c6 => rfl
  case c7 => rfl
  case c8 => rfl
  k_steps
  unfold Stop
  rename Fr _ _ _ _ => lF'
  rename News _ _ _ _ => lN'
  rename IsRange _ _ _ _ _ _ _ _ => rgX
  refine' LCg.CompSrc.range (n := 8) rfl lF' lN' rgX rfl rfl (by decide) ?_
  intro g2
  clear lF' lN' rgX
  try dsimp only
  refine' rest_rel (fun i v => ∃ t, v = .int (num i) t) trivial ?fin2 ?step2
  case step2 =>
    intro i ys v I oI C oC D m₂ h tk E' hi hys hP hC hx F9 N9 off9 ne9
    obtain ⟨t9, hP'⟩ := hP
    subst hP'
    try dsimp only
    try simp only [LCg.Off3, and_true] at off9
    try k_fold
    k_steps
    unfold Stop
    exact EltEnd.intro (by assumption) (by assumption) (fun p hp => hp) ⟨_, congrArg (fun z => Value.int z _) (num_fd i hi)⟩
  intro nzs hnl hnr
  have hnI := ints_nums hnl hnr
  unfold LCg.FinA
  intro D4 h4 tk4 FC NC oC
  try simp only [LCg.Off1, and_true] at oC
  try dsimp only
  try k_fold
  k_steps
  unfold Stop
  rename Fr _ _ _ _ => lF'
  refine' LCg.Assign_ListComp_U lF' ?c0 ?c1 ?c2 ?c3 ?c4 ?c5 ?c6 ?c7 ?c8 ?_
  case c0 => rfl
  case c1 => with_unfolding_all rfl
  case c2 => with_unfolding_all rfl
  case c3 => decide
  case c4 => rfl
  case c5 => decide
  case c6 => rfl
  case c7 => rfl
  case c8 => rfl
  k_steps
  unfold Stop
  rename Fr _ _ _ _ => lF'
  rename News _ _ _ _ => lN'
  refine' LCg.CompSrc.ledger rfl lF' lN' (.head _) ?sz ?_
  case sz => (rw [List.size_toArray, hnl, sizeLine_eq]; decide)
  intro g3
  clear lF' lN'
  try dsimp only
  k_with "call ref" => (refine Stop.out ?_)
  k_with "call builtin:bytes.decode" => (refine Stop.out ?_)
  refine' rest_rel (fun i v => ∃ t, v = .str (sub i 0 3) t) (.inr ⟨_, .head _, rfl, _, rfl⟩) ?fin3 ?step3
  case step3 =>
    intro i ys v I oI C oC D m₂ h tk E' hi hys hP hC hx F9 N9 off9 ne9
    rw [List.size_toArray, hnl] at hi
    obtain ⟨t9, hP'⟩ := lst_at hnr hP
    subst hP'
    clear hP
    try dsimp only
    try simp only [LCg.Off3, and_true] at off9
    try k_fold
    k_steps
    unfold Stop
    refine' callC_use (apC _ _ i _ hi) ?k1 ?k2 ?k3 ?k4 ?k5 ?kK ?kd ?ku ?_
    case k1 => k_asm
    case k2 => k_asm
    case k3 => k_asm
    case k4 => k_asm
    case k5 => k_asm
    case kK => first | exact rfl | assumption
    case kd => first | ktr_room | exact Nat.le_of_ble_eq_true rfl
    case ku => first | ktr_units | exact Nat.le_of_ble_eq_true rfl
    intro r9 led9 h9 tk9 F9 N9 hR
    obtain ⟨⟨t9, e1⟩, e2⟩ := hR
    subst e1
    subst e2
    try dsimp only
    try k_fold
    k_steps
    unfold Stop
    refine' decode_word hi (fun t9 tk9 => ?_)
    try dsimp only
    try k_fold
    k_steps
    unfold Stop
    exact EltEnd.intro (by assumption) (by assumption) (fun p hp => hp) ⟨_, rfl⟩
  intro wzs hwl hwr
  rw [List.size_toArray, hnl] at hwl
  have hwS := strs_words hwl hwr
  unfold LCg.FinA
  intro D5 h5 tk5 FD ND oD
  try simp only [LCg.Off1, and_true] at oD
  try dsimp only
  try k_fold
  k_with "compareOp NotEq ref ref" => (refine Stop.out ?_)
  k_steps
  unfold Stop
  rename Fr _ _ _ _ => lF'
  rename News _ _ _ _ => lN'
  refine' ListComp3 (r := cat3) lF' lN' rfl ?c1 ?c2 ?c3 ?c4 ?c5 ?c6 ?c7 ?c8 ?c9 ?c10 ?c11 ?c12 ?c13 ?c14 ?el ?_
  case c1 => with_unfolding_all rfl
  case c2 => decide
  case c3 => rfl
  case c4 => decide
  case c5 => rfl
  case c6 => rfl
  case c7 => rfl
  case c8 => decide
  case c9 => decide
  case c10 => decide
  case c11 => decide +kernel
  case c12 => decide +kernel
  case c13 => decide +kernel
  case c14 => decide +kernel
  case el =>
    intro C s c0 c1 c2 u0 u1 u2 m h tk E' hn ma mb mc
    exact elt3 (s := ⟨h, s.gens, s.drawn, tk, s.os⟩) hn ma mb mc rfl rfl rfl rfl (by decide) (by decide) (by decide)
  clear lF' lN'
  intro D6 h6 tk6 czs F6 N6 hl6 hz6
  have hz7 : StrsAre czs words8 := by rw [← words_cat]; exact hz6
  try k_lt hl6
  try dsimp only
  try k_fold
  k_steps
  unfold Stop
  rename News _ _ _ _ => lN'
  refine' ne_words (PySem.IsL.isList (n := wzs.length) (lN' (D5, LCg.lst wzs) ?m1).1) (PySem.IsL.isList (n := czs.length) (lN' (D6, LCg.lst czs) ?m2).1) hwS hz7 ?u ?_
  case m1 => k_mem
  case m2 => k_mem
  case u => first | units_room | exact Nat.le_of_ble_eq_true rfl
  k_steps
  unfold Stop
  rename Fr _ _ _ _ => lF'
  refine' LCg.Assign_ListComp_U lF' ?c0 ?c1 ?c2 ?c3 ?c4 ?c5 ?c6 ?c7 ?c8 ?_
  case c0 => rfl
  case c1 => with_unfolding_all rfl
  case c2 => with_unfolding_all rfl
  case c3 => decide
  case c4 => rfl
  case c5 => decide
  case c6 => rfl
  case c7 => rfl
  case c8 => rfl
  k_steps
  unfold Stop
  rename Fr _ _ _ _ => lF'
  rename News _ _ _ _ => lN'
  refine' LCg.CompSrc.ledger (news := [(D5, LCg.lst wzs), (D4, LCg.lst nzs), (D3, LCg.lst zs), _, _, _, _, _, _, _, _]) rfl lF' (fun p hp => lN' p (.tail _ hp)) (.head _) ?sz ?_
  case sz => (rw [List.size_toArray, hwl, sizeLine_eq]; decide)
  clear lF' lN'
  intro g4
  try dsimp only
  rw [show wzs.toArray.size = 8 from by rw [List.size_toArray, hwl]]
  refine' rest_led (FarInv ((D5, LCg.lst wzs) :: (D4, LCg.lst nzs) :: (D3, LCg.lst zs) :: _)) ?fin4 ?step4 8 0 [] _ rfl (farInv0 _)
  case step4 =>
    intro i ys nw v I oI C oC D m₂ h tk E' hi hI4 hP hC hx F9 N9 off9 ne9
    try dsimp only
    try k_fold
    k_steps
    rename IntsAre (List.flatten _) (List.flatten _) => i9
    exact far_end (by assumption) (by assumption) (by assumption) off9 hI4 i9
  intro yzs nw hI5
  unfold LCg.FinA
  intro D7 h7 tk7 FE NE oE
  obtain ⟨rr, as, hyz, RA, hnd, hpa, hD7, NF, hoF⟩ := far_done hI5 NE oE
  subst hyz
  clear NE oE hI5
  have NP := perm_x NF
  simp only [List.forall_mem_cons, List.not_mem_nil, false_imp_iff, implies_true, and_true] at hoF hpa
  obtain ⟨p5, p4, p3, q1, q2, q3, q4, q5, q6, q7, q8⟩ := hpa
  obtain ⟨o5, o4, o3, r1, r2, r3, r4, r5, r6, r7, r8⟩ := hoF
  clear NF
  dsimp only [List.cons_append, List.nil_append] at NP
  try dsimp only
  try k_fold
  have oB := oA.2.2.2.2.2
  clear hl1 hl2 hl6 oA hI1 hI2 hzr hnr hwr hz6 hz7 hI3 hxd hxl xs
  repeat (rename_i x; revert x)
  clear ws1 ws2 czs h1 h2 g g2 g3 g4 h3 h4 h5 h6 tk3 tk4 tk5 tk6 nw hzl hnl hwl D1 D2 D6
  revert hdl hd16 hnd hD7 p5 p4 p3 RA hzI hnI hwS
  revert ds tk h7 tk7 D3 D5 D4 D7 zs nzs wzs as rr
  exact K.out⟩

set_option maxRecDepth 100000 in
set_option maxHeartbeats 2000000 in
def P2 : { G : Prop × Prop // Box G.1 → Box G.2 → P1.1 } := ⟨(_, _), fun K1 K2 => by
  delta P1
  k_fill
  set_option tactic.hygienic false in intro ds
  set_option tactic.hygienic false in intros
  have NQ := NP
  have FQ := FE
  clear NP FE
  clear x_94 x_87 x_86 x_83 x_82 x_81 x_80 x_76 x_73 x_72 x_71 x_70 x_93 x_92 x_91 x_90 x_89 x_84 x_79 x_78 x_77 x_75 x_74 x_69 x_68 x_67 x_45
  w_top on
  w_on
  k_with_none
  k_with "exec For Name Call cons nil" => k_dflt (refine wpAny_For ?_)
  k_with "pyIter ref" => (refine Stop.out ?_)
  k_with "ForEndC" => (refine Stop.out ?_)
  k_steps
  unfold Stop
  rename Fr _ _ _ _ => lF'
  rename News _ _ _ _ => lN'
  rename IsRange _ _ _ _ _ _ _ _ => rgX
  refine' forC_range (n := 8) rfl rfl rfl rfl lF' lN' (by assumption) ?off1 rgX rfl rfl (fun i m' nw => m' = _ ∧ ∃ oy vy rs, oy.data = Data.cell vy ∧ nw = (_, oy) :: _ :: _ :: _ :: _ :: _ :: _ :: _ :: _ :: _ :: _ :: RowsL rs ∧ RowsAre rs as (TT i 0)) ⟨rfl, _, _, rr, by assumption, rfl, RA⟩ ?turn1 ?done1
  case off1 =>
    simp only [LCg.Off1]
    refine ⟨by k_ne, Ne.symm r8, by k_ne, by k_ne, by k_ne, by k_ne, by k_ne, by k_ne, by k_ne, by k_ne, by k_ne, off_rows RA (by assumption)⟩
  case turn1 =>
    rintro i I m' nw t oI oc h tk E' hi ⟨rfl, oy, vy, rs, hdy, rfl, R1⟩ F9 N9 hdc offI hcI offc tk0 h0
    rw [Int.zero_add] at hdc
    have offI0 := offI
    have offc0 := offc
    simp only [LCg.Off1] at offI offc
    try dsimp only
    try k_fold
    k_steps
    unfold Stop
    rename Fr _ _ _ _ => lF'
    rename News _ _ _ _ => lN'
    rename IsRange _ _ _ _ _ _ _ _ => rgX
    refine' forC_range (n := i) rfl rfl rfl rfl lF' (perm_y lN') hdy ?off2 rgX ?sm ?rs (fun j m' nw => m' = _ ∧ ∃ rs, nw = (I, oI) :: (_, oc) :: _ :: _ :: _ :: _ :: _ :: _ :: _ :: _ :: _ :: _ :: RowsL rs ∧ RowsAre rs as (TT i j)) ⟨rfl, rs, rfl, R1⟩ ?turn2 ?done2
    case sm => exact rng_small8 i hi
    case rs => exact rng_size8 i hi
    case off2 =>
      simp only [LCg.Off1]
      refine ⟨by k_ne, by k_ne, Ne.symm r6, by k_ne, by k_ne, by k_ne, by k_ne, by k_ne, by k_ne, by k_ne, by k_ne, by k_ne, off_rows R1 (by assumption)⟩
    case turn2 =>
      clear lF' lN' rgX
      rintro j J m' nw t2 oJ oy2 h tk E' hj ⟨rfl, rs2, rfl, R2⟩ F9 N9 hdy2 offJ hcJ offy tk1 h1
      rw [Int.zero_add] at hdy2
      have offJ0 := offJ
      have offy0 := offy
      simp only [LCg.Off1] at offJ offy
      repeat (rename_i q; revert q)
      revert x_29 x_31 x_32
      revert x x_1 x_2 x_3 x_4 x_7 x_8 x_9 x_10 x_21 x_22 x_24 x_25 x_27 x_33 x_34 x_35 x_36 x_37 x_48 x_49 x_50 x_51 x_52 x_53 x_54 x_55 x_56 x_57 x_85
      revert ds zs D3 nzs D4 wzs D5 D7 h7 tk7 rr as i I t oI oc oy vy rs tk0 h0 j J t2 oJ oy2 h tk E' rs2 tk1 h1
      exact K1.out
    case done2 =>
      clear lF' lN' rgX
      rintro m' nw oy2 vy2 h tk ⟨rfl, rs2, rfl, R2⟩ F9 N9 hdy2 offy
      try dsimp only
      try k_fold
      k_steps
      unfold Stop
      rename Fr _ _ _ _ => lF'
      rename News _ _ _ _ => lN'
      refine ForEndC.next lF' lN' _ hdc perm_x2 ?_ ?_ ⟨rfl, oy2, vy2, rs2, hdy2, rfl, R2.congr (TT_next i hi)⟩
      · exact off1_addr (l := (_, oc) :: _) ⟨hcI, offI0⟩ (by simp only [List.map_cons, rows_addr R1 R2])
      · exact off1_addr offc0 (by simp only [List.map_cons, rows_addr R1 R2])
  case done1 =>
    clear lF' lN' rgX
    rintro m' nw ox vx h tk ⟨rfl, oy, vy, rs, hdy, rfl, R1⟩ F9 N9 hdx offx
    try dsimp only
    repeat (rename_i q; revert q)
    revert x_29 x_31 x_32
    revert x x_1 x_2 x_3 x_4 x_7 x_8 x_9 x_10 x_21 x_22 x_24 x_25 x_27 x_33 x_34 x_35 x_36 x_37 x_48 x_49 x_50 x_51 x_52 x_53 x_54 x_55 x_56 x_57 x_85
    revert ds zs D3 nzs D4 wzs D5 D7 h7 tk7 as h tk rs ox vx oy vy rr
    exact K2.out⟩

set_option maxRecDepth 100000 in
set_option maxHeartbeats 2000000 in
theorem T2 : P2.1.1 := by
  delta P2
  k_fill
  set_option tactic.hygienic false in intro ds
  set_option tactic.hygienic false in intros
  have NQ := N9
  have FQ := F9
  clear N9 F9
  w_top on
  w_on
  k_with_none
  k_with "subscriptTail Name Name ref int" => (refine Stop.out ?_)
  k_with "subscriptTail Subscript Name ref int" => (refine Stop.out ?_)
  k_with "eval ListComp" => (refine Stop.out ?_)
  k_with "SrcT" => (refine Stop.out ?_)
  k_with "EltEnd" => (refine Stop.out ?_)
  k_with "call ref" => (refine Stop.out ?_)
  k_with "setItem ref int" => (refine Stop.out ?_)
  k_with "ForEndC" => (refine Stop.out ?_)
  k_steps
  unfold Stop
  rename News _ _ _ _ => lN'
  refine' word_item lN' ?w1 hwS (by omega) (fun t9 => ?_)
  case w1 => k_mem
  try dsimp only
  k_steps
  unfold Stop
  rename News _ _ _ _ => lN'
  refine' word_item lN' ?w2 hwS (by omega) (fun t9 => ?_)
  case w2 => k_mem
  try dsimp only
  k_steps
  unfold Stop
  have hj8 : j < 8 := by omega
  refine' callC_use (h₀ := x_2.heap) (levC _ _ i j _ _ _ hi hj8 (by omega)) ?k1 ?k2 ?k3 ?k4 ?k5 ?kK ?kd ?ku ?_
  case k1 => k_asm
  case k2 => k_asm
  case k3 => k_asm
  case k4 => k_asm
  case k5 => k_asm
  case kK => first | exact rfl | assumption
  case kd => first | ktr_room | exact Nat.le_of_ble_eq_true rfl
  case ku => first | ktr_units | exact Nat.le_of_ble_eq_true rfl
  intro r9 led9 h9 tk9 F9 N9 hR
  obtain ⟨⟨t9, e1⟩, e2⟩ := hR
  subst e1
  subst e2
  try dsimp only
  try k_fold
  k_steps
  unfold Stop
  rename News _ _ _ _ => lN'
  refine' row_item lN' ?w3 (by rw [R1.len]; exact hi) (by omega) ?_
  case w3 => k_mem
  try dsimp only
  k_steps
  unfold Stop
  rename Fr _ _ _ _ => lF'
  rename News _ _ _ _ => lN'
  have hIa : I ∉ as := off_not R1 offI.2.2.2.2.2.2.2.2.2.2.2
  have hJa : J ∉ as := off_not R2 offJ.2.2.2.2.2.2.2.2.2.2.2.2
  refine' row_set (pre := [(J, oJ), (_, oy2), (I, oI), (_, oc), _, _, _, _, _, _, _, _, _, _]) lF' lN' R2 hnd ?hp1 hi hj8 (TT_len i j i) ?_
  case hp1 =>
    simp only [List.forall_mem_cons, List.not_mem_nil, false_imp_iff, implies_true, and_true]
    exact ⟨hJa, q6, hIa, q8, hD7, p5, p4, p3, q7, q1, q2, q3, q4, q5⟩
  clear lF' lN'
  intro h2 rs3 F2 N2 R3
  have R3 := R3.congr (T' := TU i j) (fun i' hi' => by
    show (if i' = i then (TT i j i).set j (dist i j) else TT i j i') = if i' = i then (TT i j i).set j (dist i j) else TT i j i'
    rfl)
  dsimp only [List.cons_append, List.nil_append] at N2
  try dsimp only
  try k_fold
  k_steps
  unfold Stop
  rename News _ _ _ _ => lN'
  refine' row_item lN' ?w4 (by rw [R1.len]; exact hi) (by omega) ?_
  case w4 => k_mem
  try dsimp only
  k_steps
  unfold Stop
  rename News _ _ _ _ => lN'
  refine' rows_item lN' R3 ?w5 hi hj8 (TU_len i hi j hj i hi) (fun t8 => ?_)
  case w5 =>
    intro p hp
    simp only [List.mem_cons]
    simp [hp]
  rw [TU_at i hi j hj]
  try dsimp only
  k_steps
  unfold Stop
  rename News _ _ _ _ => lN'
  refine' row_item lN' ?w6 (by rw [R1.len]; exact hj8) (by omega) ?_
  case w6 => k_mem
  try dsimp only
  k_steps
  unfold Stop
  rename Fr _ _ _ _ => lF'
  rename News _ _ _ _ => lN'
  refine' row_set (pre := [(J, oJ), (_, oy2), (I, oI), (_, oc), _, _, _, _, _, _, _, _, _, _]) lF' lN' R3 hnd ?hp2 hj8 hi (TU_len i hi j hj j hj8) ?_
  case hp2 =>
    simp only [List.forall_mem_cons, List.not_mem_nil, false_imp_iff, implies_true, and_true]
    exact ⟨hJa, q6, hIa, q8, hD7, p5, p4, p3, q7, q1, q2, q3, q4, q5⟩
  clear lF' lN'
  intro h3 rs4 F3 N3 R4
  have R4 := R4.congr (T' := TV i j) (fun i' hi' => by
    show (if i' = j then (TU i j j).set i (dist i j) else TU i j i') = if i' = j then (TU i j j).set i (dist i j) else TU i j i'
    rfl)
  dsimp only [List.cons_append, List.nil_append] at N3
  try dsimp only
  try k_fold
  k_steps
  unfold Stop
  rename News _ _ _ _ => lN'
  refine' row_item lN' ?w7 (by rw [R1.len]; exact hi) (by omega) ?_
  case w7 => k_mem
  try dsimp only
  k_steps
  unfold Stop
  rename News _ _ _ _ => lN'
  refine' rows_item lN' R4 ?w8 hi hj8 (TV_len i hi j hj i hi) (fun t8 => ?_)
  case w8 =>
    intro p hp
    simp only [List.mem_cons]
    simp [hp]
  rw [TV_at i hi j hj]
  try dsimp only
  k_steps
  unfold Stop
  have lF' := ‹Fr _ _ _ _›
  refine' ListComp_tup lF' ?c1 ?c2 ?c3 ?c4 ?c5 ?_
  case c1 => with_unfolding_all rfl
  case c2 => decide
  case c3 => rfl
  case c4 => decide
  case c5 => rfl
  clear lF'
  k_steps
  unfold Stop
  rename Fr _ _ _ _ => lF'
  rename News _ _ _ _ => lN'
  refine' SrcT.ledger rfl lF' lN' (.head _) ?sz ?_
  case sz => exact Nat.le_of_ble_eq_true rfl
  clear lF' lN'
  intro g2
  try dsimp only
  refine' rest_rel (fun k v => ∃ t, v = .int (((i / 2 ^ k + j / 2 ^ k) % 2 : Nat) : Int) t) (.head _) ?fin2 ?step2
  case step2 =>
    intro k ys v I2 oI2 C oC2 D m₂ h tk E' hk hys hP hC hx F9 N9 off9 ne9
    try dsimp only
    try simp only [LCg.Off3, and_true] at off9
    obtain rfl | rfl | rfl : k = 0 ∨ k = 1 ∨ k = 2 := by
      have hk' : k < 3 := hk
      omega
    · have hP' : v = Value.int 1 _ := (Option.some.inj hP).symm
      subst hP'
      clear hP
      try k_fold
      k_steps
      unfold Stop
      exact EltEnd.intro (by assumption) (by assumption) (fun p hp => hp) ⟨_, congrArg (fun z => Value.int z _) (par_0 i hi j hj8)⟩
    · have hP' : v = Value.int 2 _ := (Option.some.inj hP).symm
      subst hP'
      clear hP
      try k_fold
      k_steps
      unfold Stop
      exact EltEnd.intro (by assumption) (by assumption) (fun p hp => hp) ⟨_, congrArg (fun z => Value.int z _) (par_1 i hi j hj8)⟩
    · have hP' : v = Value.int 4 _ := (Option.some.inj hP).symm
      subst hP'
      clear hP
      try k_fold
      k_steps
      unfold Stop
      exact EltEnd.intro (by assumption) (by assumption) (fun p hp => hp) ⟨_, congrArg (fun z => Value.int z _) (par_2 i hi j hj8)⟩
  intro pzs hpl hpr
  have hpI := pars_ints hpl hpr
  unfold LCg.FinE
  intro D8 h8 tk8 F8 N8 o8
  try simp only [LCg.Off1, and_true] at o8
  try dsimp only
  try k_fold
  k_steps
  · exact absurd (pars_sum i hi j hj).symm (by assumption)
  unfold Stop
  rename Fr _ _ _ _ => lF'
  rename News _ _ _ _ => lN'
  refine ForEndC.next lF' lN' ((I, oI) :: (_, oc) :: (_, _) :: (_, _) :: (_, _) :: (_, _) :: (_, _) :: (_, _) :: (_, _) :: (_, _) :: (_, _) :: (_, _) :: RowsL rs4) hdy2 (fun p hp => .tail _ (.tail _ hp)) ?_ ?_ ⟨rfl, rs4, rfl, R4.congr (TV_step i hi j hj)⟩
  · exact off1_addr (l := (_, oy2) :: _) ⟨hcJ, offJ0⟩ (by simp only [List.map_cons, rows_addr R2 R4])
  · exact off1_addr offy0 (by simp only [List.map_cons, rows_addr R2 R4])

set_option maxRecDepth 100000 in
set_option maxHeartbeats 2000000 in
def P3 : { G : Prop × Prop // Box G.1 → Box G.2 → P2.1.2 } := ⟨(_, _), fun K1 K2 => by
  delta P2
  k_fill
  set_option tactic.hygienic false in intro ds
  set_option tactic.hygienic false in intros
  have NQ := N9
  have FQ := F9
  clear N9 F9
  clear q_2 q_3 q_11 q_10 q_9 q_8 q_7 q_6 q_5 q_4 q RA rr h7 tk7
  w_top on
  w_on
  k_with_none
  k_with "exec Assign cons ListComp" => (refine Stop.out ?_)
  k_with "subscriptTail Name Name ref int" => (refine Stop.out ?_)
  k_with "call ref" => (refine Stop.out ?_)
  k_with "getMethod ref" => (refine Stop.out ?_)
  k_with "call builtin:list.index" => (refine Stop.out ?_)
  k_with "CompSrcT" => (refine Stop.out ?_)
  k_with "EltEnd" => (refine Stop.out ?_)
  k_with "TestEnd" => (refine Stop.out ?_)
  k_steps
  unfold Stop
  rename Fr _ _ _ _ => lF'
  refine' LCt.Assign_ListComp_T lF' ?c0 ?c1 ?c2 ?c3 ?c4 ?c5 ?c6 ?c7 ?c8 ?_
  case c0 => rfl
  case c1 => with_unfolding_all rfl
  case c2 => with_unfolding_all rfl
  case c3 => decide
  case c4 => rfl
  case c5 => decide
  case c6 => rfl
  case c7 => rfl
  case c8 => rfl
  k_steps
  unfold Stop
  rename Fr _ _ _ _ => lF'
  rename News _ _ _ _ => lN'
  rename IsRange _ _ _ _ _ _ _ _ => rgX
  refine' LCt.CompSrcT.range (n := 8) rfl lF' lN' rgX rfl rfl (by decide) ?_
  intro g2
  clear lF' lN' rgX
  try dsimp only
  refine' rest_filt (fun i v => ∃ t, v = .int (i : Int) t) (fun x => decide (ds.getD x 0 < 8)) trivial ?fin2 ?test2 ?step2
  case test2 =>
    intro i ys v I oI C oC D m₂ h tk E' hi hP hC hx F9 N9 off9 ne9
    obtain ⟨t9, hP'⟩ := hP
    rw [Int.zero_add] at hP'
    subst hP'
    try dsimp only
    try simp only [LCg.Off3, and_true] at off9
    try k_fold
    k_steps
    unfold Stop
    rename News _ _ _ _ => lN'
    refine' draw_item lN' ?w1 hzI (by omega) (by omega) (fun t8 => ?_)
    case w1 => k_mem
    try dsimp only
    k_steps
    unfold Stop
    exact TestEnd.intro (by assumption) (by assumption) (fun p hp => hp) (dlt8 _)
  case step2 =>
    intro i ys v I oI C oC D m₂ h tk E' hi hb hP hC hx F9 N9 off9 ne9
    obtain ⟨t9, hP'⟩ := hP
    rw [Int.zero_add] at hP'
    subst hP'
    try dsimp only
    try simp only [LCg.Off3, and_true] at off9
    try k_fold
    k_steps
    unfold Stop
    exact EltEnd.intro (by assumption) (by assumption) (fun p hp => hp) ⟨_, rfl⟩
  intro bzs hbr hbl
  have hbI := rel_casts hbr hbl
  unfold LCg.FinA
  intro D8 h8 tk8 F8 N8 o8
  try simp only [LCg.Off1] at o8
  try dsimp only
  try k_fold
  k_with "exec For Name Name cons nil" => k_dflt (refine wpAny_For ?_)
  k_with "pyIter ref" => (refine Stop.out ?_)
  k_with "ForEndC" => (refine Stop.out ?_)
  k_steps
  rename Fr _ _ _ _ => lF'
  rename News _ _ _ _ => lN'
  refine' store_mid (pre := [_, _, _, _, _, _, _, _, _, _, _, _, _]) rfl rfl rfl lF' lN' (by assumption) ?o1 (off_rows R1 q5) ?_
  case o1 =>
    simp only [LCg.Off1]
    refine ⟨by k_ne, by k_ne, by k_ne, by k_ne, Ne.symm r5, by k_ne, by k_ne, by k_ne, by k_ne, by k_ne, by k_ne, by k_ne, by k_ne, trivial⟩
  clear lF' lN'
  intro h' oR F9 N9 hdR
  dsimp only [List.cons_append, List.nil_append] at N9
  try dsimp only
  try k_fold
  k_steps
  rename Fr _ _ _ _ => lF'
  rename News _ _ _ _ => lN'
  refine' store_mid (pre := [_, _, _, _, _, _, _, _, _, _, _, _, _]) rfl rfl rfl lF' lN' (by assumption) ?o2 ?o3 ?_
  case o2 =>
    simp only [LCg.Off1]
    refine ⟨by k_ne, by k_ne, by k_ne, by k_ne, by k_ne, Ne.symm r4, by k_ne, by k_ne, by k_ne, by k_ne, by k_ne, by k_ne, by k_ne, trivial⟩
  case o3 => exact ⟨by k_ne, off_rows R1 q4⟩
  clear lF' lN'
  intro h' oY F9 N9 hdY
  dsimp only [List.cons_append, List.nil_append] at N9
  try dsimp only
  try k_fold
  k_steps
  unfold Stop
  rename Fr _ _ _ _ => lF'
  rename News _ _ _ _ => lN'
  rename_i R hq1 lR hq2 Y hq3 lY
  have oRB : LCg.Off1 R ((_, oy) :: (_, oy) :: (_, oy) :: (_, oy) :: (_, oy) :: (_, oy) :: (_, oy) :: (_, oy) :: (_, oy) :: (_, oy) :: (_, oy) :: (_, oy) :: (_, oy) :: RowsL rs) := off_lt lR
  have oYB : LCg.Off1 Y ((_, oy) :: (_, oy) :: (_, oy) :: (_, oy) :: (_, oy) :: (_, oy) :: (_, oy) :: (_, oy) :: (_, oy) :: (_, oy) :: (_, oy) :: (_, oy) :: (_, oy) :: (_, oy) :: RowsL rs) := off_lt lY
  obtain ⟨mm, hmm, lG⟩ := fr_map lF'
  change bzs.length = (bodies ds).length at hbl
  change IntsAre bzs ((bodies ds).map fun d => ((d : Nat) : Int)) at hbI
  refine' forC_list (k := bzs.length) (vs := bzs) rfl rfl rfl rfl lG (perm4 lN') hdx ?off1
    (fun i m' nw => ∃ tp vR nR vY nY, m' = (fun z => if z = Str.ofString "tip" then tp else mm z) ∧ IntsAre vR (shelf (foldM ((bodies ds).take i) (fun x => ds.getD x 0) 0)) ∧ IntsAre vY (shelf (foldM ((bodies ds).take i) (fun x => 7 - ds.getD x 0) 0)) ∧
      nw = (Y, listOf vY.toArray nY) :: (R, listOf vR.toArray nR) :: (D8, LCg.lst bzs) :: (_, oy) :: _ :: _ :: _ :: _ :: _ :: _ :: _ :: _ :: _ :: _ :: RowsL rs) ?hin ⟨mm (Str.ofString "tip"), [], 0, [], 0, map_id _ _, shelf_nil _, shelf_nil _, rfl⟩ ?turn1 ?done1
  case off1 =>
    simp only [LCg.Off1]
    refine ⟨by k_ne, by k_ne, by k_ne, offx⟩
  case hin =>
    rintro i m' nw ⟨tp, vR, nR, vY, nY, -, -, -, rfl⟩
    exact .tail _ (.tail _ (.head _))
  case turn1 =>
    clear lG lF' lN' offx hq3 hq2 hq1
    rintro i I m' nw v oI oc h tk E' hi ⟨tp, vR, nR, vY, nY, rfl, hIR, hIY, rfl⟩ hv F9 N9 hdc offI hcI offc tk0 h0
    have hi2 := hi
    rw [hbl] at hi2
    obtain ⟨b, hb⟩ : ∃ b, b = (bodies ds).getD i 0 := ⟨_, rfl⟩
    obtain ⟨tb, e9⟩ := ints_at hbI (i := i) (by simpa using hi2)
    rw [casts_at, ← hb] at e9
    have hv' := Option.some.inj (hv.symm.trans e9)
    subst hv'
    obtain ⟨hb8, hd8⟩ := bodies_in b (hb ▸ getD_in _ hi2)
    subst hmm
    try dsimp only at F9
    repeat (rename_i q; revert q)
    revert x_29 x_31 x_32
    revert x x_1 x_2 x_3 x_4 x_7 x_8 x_9 x_10 x_21 x_22 x_24 x_25 x_27 x_33 x_34 x_35 x_36 x_37 x_48 x_49 x_50 x_51 x_52 x_53 x_54 x_55 x_56 x_57 x_85
    revert ds zs D3 nzs D4 wzs D5 D7 as ox vx oy vy rs g2 bzs D8 h8 tk8 R oR Y h' oY i I oI oc h tk E' tp vR nR vY nY tk0 h0 b tb
    exact K1.out
  case done1 =>
    clear lG lF' lN' offx hq3 hq2 hq1
    rintro m' nw oc vc h tk ⟨tp, vR, nR, vY, nY, rfl, hIR, hIY, rfl⟩ F9 N9 hdc offc
    rw [hbl, List.take_length] at hIR hIY
    change IntsAre vR (shelf (redM ds)) at hIR
    change IntsAre vY (shelf (yelM ds)) at hIY
    subst hmm
    try dsimp only at F9
    try dsimp only
    repeat (rename_i q; revert q)
    revert x_29 x_31 x_32
    revert x x_1 x_2 x_3 x_4 x_7 x_8 x_9 x_10 x_21 x_22 x_24 x_25 x_27 x_33 x_34 x_35 x_36 x_37 x_48 x_49 x_50 x_51 x_52 x_53 x_54 x_55 x_56 x_57 x_85
    revert ds zs D3 nzs D4 wzs D5 D7 as ox vx oy vy rs g2 bzs D8 h8 tk8 R oR Y h' oY oc vc h tk tp vR nR vY nY
    exact K2.out⟩

set_option maxRecDepth 100000 in
set_option maxHeartbeats 2000000 in
theorem T3 : P3.1.1 := by
  delta P3
  k_fill
  set_option tactic.hygienic false in intro ds
  set_option tactic.hygienic false in intros
  have NQ := N9
  have FQ := F9
  clear N9 F9
  w_top on
  w_on
  k_with_none
  k_with "subscriptTail Name Name ref int" => (refine Stop.out ?_)
  k_with "call ref" => (refine Stop.out ?_)
  k_with "getMethod ref" => (refine Stop.out ?_)
  k_with "call builtin:list.index" => (refine Stop.out ?_)
  k_with "ForEndC" => (refine Stop.out ?_)
  k_steps
  unfold Stop
  rename News _ _ _ _ => lN'
  refine' draw_item lN' ?w1 hzI (by omega) (by omega) (fun t8 => ?_)
  case w1 => k_mem
  try dsimp only
  k_steps
  unfold Stop
  rename News _ _ _ _ => lN'
  refine' callC_use (h₀ := x_2.heap) (layC _ _ R D4 D7 as vR nR _ b (ds.getD b 0) _ _ hIR ?hM hb8 hd8 ?hoff ?hnum ?hfar) ?k1 ?k2 ?k3 (perm4 lN') ?k5 ?kK ?kd ?ku ?_
  case hM => exact foldM_lt _ _ (by omega)
  case k1 => k_asm
  case k2 => k_asm
  case k3 => k_asm
  case k5 => k_asm
  case kK => first | exact rfl | assumption
  case kd => first | ktr_room | exact Nat.le_of_ble_eq_true rfl
  case ku => first | ktr_units | exact Nat.le_of_ble_eq_true rfl
  case hoff => exact off1_mem (l := (I, oI) :: (_, oc) :: (Y, _) :: (D8, _) :: _) ⟨Ne.symm offI.2.1, oRB.2.1, Ne.symm oYB.1, oRB.1, off1_addr oRB.2.2 rfl⟩
  case hnum => exact ⟨nzs, _, .tail _ (.tail _ (.tail _ (.tail _ (.tail _ (.tail _ (.tail _ (.head _))))))), hnI⟩
  case hfar => exact rows_far R1 (.tail _ (.tail _ (.tail _ (.tail _ (.tail _ (.head _)))))) (fun p hp => by simp only [List.mem_cons]; simp [hp])
  intro r9 led9 h9 tk9 F9 N9 hR
  obtain ⟨e1, vR2, nR2, hIR2, e2⟩ := hR
  subst e1
  subst e2
  clear lN'
  try dsimp only
  try k_fold
  k_steps
  unfold Stop
  obtain ⟨rvs, rn, e3, hrI⟩ := (R1.congr TT_end).at hd8
  have hlt8 : ∀ k, k < 8 → k < as.length := fun k hk => by rw [R1.len]; exact hk
  rename News _ _ _ _ => lN'
  refine' row_item lN' ?w2 (hlt8 _ hd8) (by omega) ?_
  case w2 => k_mem
  try dsimp only
  k_steps
  unfold Stop
  have hmr : (as.getD (ds.getD b 0) 0, listOf rvs.toArray rn) ∈ RowsL rs := row_in e3
  rename News _ _ _ _ => lN'
  refine' kf_method (its := rvs.toArray) (n := rn) lN' ?w3 PySem.F.slot_list_index PySem.F.type_list_index ?_
  case w3 =>
    simp only [List.mem_cons]
    simp only [hmr, or_true]
  try dsimp only
  try k_fold
  k_steps
  unfold Stop
  rename News _ _ _ _ => lN'
  refine' kf_index (its := rvs.toArray) (n := rn) (j := 7 - ds.getD b 0) lN' ?w4 ?w5 ?w6 rfl ?w7 ?_
  case w4 =>
    simp only [List.mem_cons]
    simp only [hmr, or_true]
  case w5 => exact kfints_of hrI
  case w6 => exact (kfat_of 6 hrI).trans (six_at _ hd8)
  case w7 =>
    rw [List.toList_toArray, hrI.length, sizeLine_eq]
    simp [distRow]
  try dsimp only
  try k_fold
  k_steps
  unfold Stop
  rename News _ _ _ _ => lN'
  refine' callC_use (h₀ := x_2.heap) (layC _ _ Y D4 D7 as vY nY _ b (7 - ds.getD b 0) _ _ hIY ?hM2 hb8 (by omega) ?hoff2 ?hnum2 ?hfar2) ?j1 ?j2 ?j3 (perm4 lN') ?j5 ?jK ?jd ?ju ?_
  case hM2 => exact foldM_lt _ _ (by omega)
  case j1 => k_asm
  case j2 => k_asm
  case j3 => k_asm
  case j5 => k_asm
  case jK => first | exact rfl | assumption
  case jd => first | ktr_room | exact Nat.le_of_ble_eq_true rfl
  case ju => first | ktr_units | exact Nat.le_of_ble_eq_true rfl
  case hoff2 => exact off1_mem (l := (R, _) :: (I, oI) :: (_, oc) :: (D8, _) :: _) ⟨oYB.1, Ne.symm offI.1, oYB.2.2.1, oYB.2.1, off1_addr oYB.2.2.2 rfl⟩
  case hnum2 => exact ⟨nzs, _, .tail _ (.tail _ (.tail _ (.tail _ (.tail _ (.tail _ (.tail _ (.head _))))))), hnI⟩
  case hfar2 => exact rows_far R1 (.tail _ (.tail _ (.tail _ (.tail _ (.tail _ (.head _)))))) (fun p hp => by simp only [List.mem_cons]; simp [hp])
  intro r9 led9 h9 tk9 F9 N9 hR
  obtain ⟨e1, vY2, nY2, hIY2, e2⟩ := hR
  subst e1
  subst e2
  clear lN'
  try dsimp only
  try k_fold
  k_steps
  unfold Stop
  rename Fr _ _ _ _ => lF'
  rename News _ _ _ _ => lN'
  refine ForEndC.next lF' lN' ((Y, listOf vY2.toArray nY2) :: (R, listOf vR2.toArray nR2) :: (D8, _) :: (_, oy) :: (_, _) :: (_, _) :: (_, _) :: (_, _) :: (_, _) :: (_, _) :: (_, _) :: (_, _) :: (_, _) :: (_, _) :: RowsL rs) hdc perm22 ?_ ?_ ⟨_, vR2, nR2, vY2, nY2, map_over _ _ _ _, ?_, ?_, rfl⟩
  · exact off1_addr (l := (_, oc) :: _) ⟨hcI, offI⟩ rfl
  · exact off1_addr offc rfl
  · rw [take_next _ hi2, foldM_app, ← hb]
    exact hIR2
  · rw [take_next _ hi2, foldM_app, ← hb]
    exact hIY2

set_option maxRecDepth 100000 in
set_option maxHeartbeats 4000000 in
theorem T4 : P3.1.2 := by
  delta P3
  k_fill
  set_option tactic.hygienic false in intro ds
  set_option tactic.hygienic false in intros
  have NQ := N9
  have FQ := F9
  clear N9 F9
  w_top on
  w_on
  k_with_none
  k_with "call ref" => (refine Stop.out ?_)
  k_with "compareOp NotEq ref ref" => (refine Stop.out ?_)
  k_with "CompSrc" => (refine Stop.out ?_)
  k_with "EltEnd" => (refine Stop.out ?_)
  k_with "eval ListComp" => (refine Stop.out ?_)
  have hin := bodies_in (ds := ds)
  k_steps
  unfold Stop
  rename News _ _ _ _ => lN'
  refine' callC_use (h₀ := x_2.heap) (wngC _ _ D8 D3 D4 bzs zs _ _ (bodies ds) ds 0 _ ?hb1 hbI ?hd1 hzI hdl hin (by omega) ?hn1) ?k1 ?k2 ?k3 lN' ?k5 ?kK ?kd ?ku ?_
  case k1 => k_asm
  case k2 => k_asm
  case k3 => k_asm
  case k5 => k_asm
  case kK => first | exact rfl | assumption
  case kd => first | ktr_room | exact Nat.le_of_ble_eq_true rfl
  case ku => first | ktr_units | exact Nat.le_of_ble_eq_true rfl
  case hb1 => k_mem
  case hd1 => k_mem
  case hn1 => exact ⟨nzs, _, .tail _ (.tail _ (.tail _ (.tail _ (.tail _ (.tail _ (.tail _ (.head _))))))), hnI⟩
  intro r9 led9 h9 tk9 F9 N9 hR
  obtain ⟨wa, vs, n, e1, e2, hw, hwI⟩ := hR
  subst e1
  subst e2
  clear lN'
  try dsimp only
  try k_fold
  k_steps
  unfold Stop
  rename News _ _ _ _ => lN'
  refine' ke_ne_ints (PySem.IsL.isList (n := nR) (lN' (R, listOf vR.toArray nR) ?m1).1) (PySem.IsL.isList (n := n) (lN' (wa, listOf vs.toArray n) ?m2).1) hIR hwI ?u1 ?_
  case m1 => k_mem
  case m2 => k_mem
  case u1 => first | units_room | exact Nat.le_of_ble_eq_true rfl
  rw [red_eq]
  k_steps
  unfold Stop
  rename News _ _ _ _ => lN'
  refine' callC_use (h₀ := x_2.heap) (wngC _ _ D8 D3 D4 bzs zs _ _ (bodies ds) ds 7 _ ?hb2 hbI ?hd2 hzI hdl hin (by omega) ?hn2) ?j1 ?j2 ?j3 lN' ?j5 ?jK ?jd ?ju ?_
  case j1 => k_asm
  case j2 => k_asm
  case j3 => k_asm
  case j5 => k_asm
  case jK => first | exact rfl | assumption
  case jd => first | ktr_room | exact Nat.le_of_ble_eq_true rfl
  case ju => first | ktr_units | exact Nat.le_of_ble_eq_true rfl
  case hb2 => k_mem
  case hd2 => k_mem
  case hn2 => exact ⟨nzs, _, .tail _ (.tail _ (.tail _ (.tail _ (.tail _ (.tail _ (.tail _ (.tail _ (.head _)))))))), hnI⟩
  intro r9 led9 h9 tk9 F9 N9 hR
  obtain ⟨wb, vs2, n2, e1, e2, hw2, hwI2⟩ := hR
  subst e1
  subst e2
  clear lN'
  try dsimp only
  try k_fold
  k_steps
  unfold Stop
  rename News _ _ _ _ => lN'
  refine' ke_ne_ints (PySem.IsL.isList (n := nY) (lN' (Y, listOf vY.toArray nY) ?m3).1) (PySem.IsL.isList (n := n2) (lN' (wb, listOf vs2.toArray n2) ?m4).1) hIY hwI2 ?u2 ?_
  case m3 => k_mem
  case m4 => k_mem
  case u2 => first | units_room | exact Nat.le_of_ble_eq_true rfl
  rw [yel_eq]
  k_steps
  unfold Stop
  rename News _ _ _ _ => lN'
  have lN2 : News _ _ _ _ := fun p hp => lN' p (.tail _ (.tail _ hp))
  clear lN'
  have lF' := ‹Fr _ _ _ _›
  refine' LCg.ListComp_U lF' ?c1 ?c2 ?c3 ?c4 ?c5 ?_
  case c1 => with_unfolding_all rfl
  case c2 => decide
  case c3 => rfl
  case c4 => decide
  case c5 => rfl
  clear lF'
  k_steps
  unfold Stop
  rename Fr _ _ _ _ => lF'
  rename News _ _ _ _ => lN'
  refine' LCg.CompSrc.ledger rfl lF' lN' (.tail _ (.tail _ (.tail _ (.tail _ (.tail _ (.tail _ (.tail _ (.head _)))))))) ?sz ?_
  case sz => (rw [List.size_toArray, nums_len hnI, sizeLine_eq]; decide)
  clear lF' lN'
  intro g3
  try dsimp only
  refine' rest_rel (fun i v => v = .bool ((redM ds).testBit i)) (.inr ⟨_, .tail _ (.tail _ (.tail _ (.tail _ (.tail _ (.tail _ (.tail _ (.head _))))))), rfl, _, rfl⟩) ?fin3 ?step3
  case step3 =>
    intro i ys v I oI C oC D m₂ h tk E' hi hys hP hC hx F9 N9 off9 ne9
    rw [List.size_toArray, nums_len hnI] at hi
    obtain ⟨t9, hP'⟩ := num_in hnI hi hP
    subst hP'
    clear hP
    try dsimp only
    try simp only [LCg.Off3] at off9
    try k_fold
    k_steps
    unfold Stop
    rename News _ _ _ _ => lN'
    refine' callC_use (h₀ := x_2.heap) (hasC _ _ R vR (shelf (redM ds)) nR (num i) t9 hIR (shelf_len _) (shelf_sorted _)) ?ra1 ?ra2 ?ra3 (perm_mid (pre := [_, _, _, _, _]) lN') ?ra5 ?raK ?rad ?rau ?_
    case ra1 => k_asm
    case ra2 => k_asm
    case ra3 => k_asm
    case ra5 => k_asm
    case raK => first | exact rfl | assumption
    case rad => first | ktr_room | exact Nat.le_of_ble_eq_true rfl
    case rau => first | ktr_units | exact Nat.le_of_ble_eq_true rfl
    intro r9 led9 h9 tk9 F9 N9 hR
    obtain ⟨e1, e2⟩ := hR
    subst e1
    subst e2
    clear lN'
    dsimp only [List.cons_append, List.nil_append] at N9
    try dsimp only
    try k_fold
    k_steps
    unfold Stop
    exact EltEnd.intro (by assumption) (by assumption) (mid_out (pre := [_, _, _, _, _])) (by rw [shelf_mem hi])
  k_with "storeName" => (refine Stop.out ?_)
  intro rzs hrl hrr
  rw [List.size_toArray, nums_len hnI] at hrl
  unfold LCg.FinE
  intro D9 h9 tk9 F9 N9 o9
  simp only [LCg.Off1] at o9
  try dsimp only
  try k_fold
  k_steps
  unfold Stop
  rename Fr _ _ _ _ => lF'
  rename News _ _ _ _ => lN'
  refine' store_mid (pre := [_, _, _, _, _, _, _, _, _, _, _, _, _]) rfl rfl rfl lF' lN' (by assumption) ?or1 ?or2 ?_
  case or1 =>
    simp only [LCg.Off1]
    refine ⟨Ne.symm o9.2.2.2.2.2.2.2.2.2.2.2.2.1, Nat.ne_of_lt (Nat.lt_succ_of_lt (Nat.lt_succ_of_lt (Nat.lt_succ_of_lt (Nat.lt_succ_of_lt (Nat.lt_succ_self _))))), Ne.symm oYB.2.2.2.2.2.2.2.2.2.2.2.1, Ne.symm oRB.2.2.2.2.2.2.2.2.2.2.1, Ne.symm o8.2.2.2.2.2.2.2.2.2.1, Nat.ne_of_lt (Nat.lt_succ_of_lt (Nat.lt_succ_of_lt (Nat.lt_succ_self _))), Ne.symm r3, Ne.symm oD.2.2.2.2.1, Ne.symm oC.2.2.2.1, Ne.symm oB.2.2.1, Nat.ne_of_lt (Nat.lt_succ_of_lt (Nat.lt_succ_of_lt (Nat.lt_succ_of_lt (Nat.lt_succ_self _)))), Ne.symm (Nat.ne_of_lt (Nat.lt_succ_of_lt (Nat.lt_succ_self _))), Ne.symm (Nat.ne_of_lt (Nat.lt_succ_self _)), trivial⟩
  case or2 => exact ⟨Nat.ne_of_lt (Nat.lt_succ_self _), Nat.ne_of_lt (Nat.lt_succ_of_lt (Nat.lt_succ_self _)), off_rows R1 q3⟩
  clear lF' lN'
  intro h' oRed F9 N9 hdRed
  dsimp only [List.cons_append, List.nil_append] at N9
  try dsimp only
  try k_fold
  k_steps
  unfold Stop
  have lF' := ‹Fr _ _ _ _›
  refine' LCg.ListComp_U lF' ?d1 ?d2 ?d3 ?d4 ?d5 ?_
  case d1 => with_unfolding_all rfl
  case d2 => decide
  case d3 => rfl
  case d4 => decide
  case d5 => rfl
  clear lF'
  k_steps
  unfold Stop
  rename Fr _ _ _ _ => lF'
  rename News _ _ _ _ => lN'
  refine' LCg.CompSrc.ledger rfl lF' lN' (.tail _ (.tail _ (.tail _ (.tail _ (.tail _ (.tail _ (.tail _ (.tail _ (.head _))))))))) ?sz2 ?_
  case sz2 => (rw [List.size_toArray, nums_len hnI, sizeLine_eq]; decide)
  clear lF' lN'
  intro g4
  try dsimp only
  refine' rest_rel (fun i v => v = .bool ((yelM ds).testBit i)) (.inr ⟨_, .tail _ (.tail _ (.tail _ (.tail _ (.tail _ (.tail _ (.tail _ (.tail _ (.head _)))))))), rfl, _, rfl⟩) ?fin4 ?step4
  case step4 =>
    intro i ys v I oI C oC D m₂ h tk E' hi hys hP hC hx F9 N9 off9 ne9
    rw [List.size_toArray, nums_len hnI] at hi
    obtain ⟨t9, hP'⟩ := num_in hnI hi hP
    subst hP'
    clear hP
    try dsimp only
    try simp only [LCg.Off3] at off9
    try k_fold
    k_steps
    unfold Stop
    rename News _ _ _ _ => lN'
    refine' callC_use (h₀ := x_2.heap) (hasC _ _ Y vY (shelf (yelM ds)) nY (num i) t9 hIY (shelf_len _) (shelf_sorted _)) ?ya1 ?ya2 ?ya3 (perm_mid (pre := [_, _, _, _, _]) lN') ?ya5 ?yaK ?yad ?yau ?_
    case ya1 => k_asm
    case ya2 => k_asm
    case ya3 => k_asm
    case ya5 => k_asm
    case yaK => first | exact rfl | assumption
    case yad => first | ktr_room | exact Nat.le_of_ble_eq_true rfl
    case yau => first | ktr_units | exact Nat.le_of_ble_eq_true rfl
    intro r9 led9 h9 tk9 F9 N9 hR
    obtain ⟨e1, e2⟩ := hR
    subst e1
    subst e2
    clear lN'
    dsimp only [List.cons_append, List.nil_append] at N9
    try dsimp only
    try k_fold
    k_steps
    unfold Stop
    exact EltEnd.intro (by assumption) (by assumption) (mid_out (pre := [_, _, _, _, _])) (by rw [shelf_mem hi])
  intro yzs hyl hyr
  rw [List.size_toArray, nums_len hnI] at hyl
  unfold LCg.FinE
  intro D10 h10 tk10 F9 N9 o10
  simp only [LCg.Off1] at o10
  try dsimp only
  try k_fold
  k_steps
  unfold Stop
  rename Fr _ _ _ _ => lF'
  rename News _ _ _ _ => lN'
  refine' store_mid (pre := [_, _, _, _, _, _, _, _, _, _, _, _, _]) rfl rfl rfl lF' lN' (by assumption) ?oy1 ?oy2 ?_
  case oy1 =>
    simp only [LCg.Off1]
    refine ⟨Ne.symm o10.2.2.2.2.2.2.2.2.2.2.2.2.1, Ne.symm o9.2.2.2.2.2.2.2.2.2.2.2.1, Nat.ne_of_lt (Nat.lt_succ_of_lt (Nat.lt_succ_of_lt (Nat.lt_succ_of_lt (Nat.lt_succ_of_lt (Nat.lt_succ_of_lt (Nat.lt_succ_self _)))))), Ne.symm oYB.2.2.2.2.2.2.2.2.2.2.1, Ne.symm oRB.2.2.2.2.2.2.2.2.2.1, Ne.symm o8.2.2.2.2.2.2.2.2.1, Nat.ne_of_lt (Nat.lt_succ_of_lt (Nat.lt_succ_of_lt (Nat.lt_succ_of_lt (Nat.lt_succ_self _)))), Ne.symm r2, Ne.symm oD.2.2.2.1, Ne.symm oC.2.2.1, Ne.symm oB.2.1, Nat.ne_of_lt (Nat.lt_succ_of_lt (Nat.lt_succ_of_lt (Nat.lt_succ_of_lt (Nat.lt_succ_of_lt (Nat.lt_succ_self _))))), Ne.symm (Nat.ne_of_lt (Nat.lt_succ_self _)), trivial⟩
  case oy2 => exact ⟨Nat.ne_of_lt (Nat.lt_succ_self _), Nat.ne_of_lt (Nat.lt_succ_of_lt (Nat.lt_succ_self _)), Nat.ne_of_lt (Nat.lt_succ_of_lt (Nat.lt_succ_of_lt (Nat.lt_succ_self _))), off_rows R1 q2⟩
  clear lF' lN'
  intro h' oYel F9 N9 hdYel
  dsimp only [List.cons_append, List.nil_append] at N9
  try dsimp only
  try k_fold
  k_with "exec For Name Call cons nil" => k_dflt (refine wpAny_For ?_)
  k_with "pyIter ref" => (refine Stop.out ?_)
  k_steps
  unfold Stop
  rename Fr _ _ _ _ => lF'
  rename News _ _ _ _ => lN'
  rename IsRange _ _ _ _ _ _ _ _ => rgX
  have lM := perm_mid (pre := [_, _, _, _, _, _, _, _, _, _, _, _]) lN'
  dsimp only [List.cons_append, List.nil_append] at lM
  refine' forC_range (n := 8) rfl rfl rfl rfl lF' lM (by assumption) ?offt rgX rfl rfl (fun i m' nw => m' = _ ∧ nw = _) ⟨rfl, rfl⟩ ?turn1 ?done1
  case offt =>
    simp only [LCg.Off1]
    refine ⟨Ne.symm o10.2.2.2.2.2.2.2.2.2.2.2.1, Ne.symm o9.2.2.2.2.2.2.2.2.2.2.1, Nat.ne_of_lt (Nat.lt_succ_of_lt (Nat.lt_succ_of_lt (Nat.lt_succ_of_lt (Nat.lt_succ_of_lt (Nat.lt_succ_of_lt (Nat.lt_succ_of_lt (Nat.lt_succ_self _))))))), Ne.symm oYB.2.2.2.2.2.2.2.2.2.1, Ne.symm oRB.2.2.2.2.2.2.2.2.1, Ne.symm o8.2.2.2.2.2.2.2.1, Nat.ne_of_lt (Nat.lt_succ_of_lt (Nat.lt_succ_of_lt (Nat.lt_succ_of_lt (Nat.lt_succ_of_lt (Nat.lt_succ_self _))))), Ne.symm r1, Ne.symm oD.2.2.1, Ne.symm oC.2.1, Ne.symm oB.1, Nat.ne_of_lt (Nat.lt_succ_of_lt (Nat.lt_succ_of_lt (Nat.lt_succ_of_lt (Nat.lt_succ_of_lt (Nat.lt_succ_of_lt (Nat.lt_succ_self _)))))), Nat.ne_of_lt (Nat.lt_succ_self _), Nat.ne_of_lt (Nat.lt_succ_of_lt (Nat.lt_succ_self _)), Nat.ne_of_lt (Nat.lt_succ_of_lt (Nat.lt_succ_of_lt (Nat.lt_succ_self _))), Nat.ne_of_lt (Nat.lt_succ_of_lt (Nat.lt_succ_of_lt (Nat.lt_succ_of_lt (Nat.lt_succ_self _)))), off_rows R1 q1⟩
  case turn1 =>
    clear lF' lN' lM rgX
    rintro i I m' nw t oI ot h tk E' hi ⟨rfl, rfl⟩ F9 N9 hdt offI hcI offt tk0 h0
    rw [Int.zero_add] at hdt
    try dsimp only
    k_with "subscriptTail Name Name ref int" => (refine Stop.out ?_)
    k_with "subscriptTail Name BinOp ref int" => (refine Stop.out ?_)
    k_with "CompSrcT" => (refine Stop.out ?_)
    k_with "TestEnd" => (refine Stop.out ?_)
    k_with "ForEndC" => (refine Stop.out ?_)
    k_steps
    unfold Stop
    have lF' := ‹Fr _ _ _ _›
    refine' LCt.ListComp_T lF' ?e1 ?e2 ?e3 ?e4 ?e5 ?_
    case e1 => with_unfolding_all rfl
    case e2 => decide
    case e3 => rfl
    case e4 => decide
    case e5 => rfl
    clear lF'
    k_steps
    unfold Stop
    rename Fr _ _ _ _ => lF'
    rename News _ _ _ _ => lN'
    rename IsRange _ _ _ _ _ _ _ _ => rgX
    refine' LCt.CompSrcT.range (n := 8) rfl lF' lN' rgX rfl rfl (by decide) ?_
    intro g5
    clear lF' lN' rgX
    try dsimp only
    refine' rest_filt (fun k v => ∃ t, v = .int (k : Int) t) (fun k => (redM ds).testBit k && (yelM ds).testBit (k ^^^ i)) trivial ?fin5 ?test5 ?step5
    case test5 =>
      intro k ys v J oJ C oC D m₂ h tk E' hk hP hC hx F9 N9 off9 ne9
      obtain ⟨t9, hP'⟩ := hP
      rw [Int.zero_add] at hP'
      subst hP'
      try dsimp only
      try simp only [LCg.Off3] at off9
      try k_fold
      k_steps
      unfold Stop
      rename News _ _ _ _ => lN'
      refine' bool_item lN' ?b1 hrr (by omega) (by omega) ?_
      case b1 => k_mem
      cases hrb : (redM ds).testBit k with
      | false =>
        try dsimp only
        k_steps
        unfold Stop
        exact TestEnd.intro (by assumption) (by assumption) (fun p hp => hp) (by rw [hrb]; rfl)
      | true =>
        try dsimp only
        k_steps
        unfold Stop
        rename News _ _ _ _ => lN'
        rw [xorN (show k < 16 by omega) (show i < 16 by omega)]
        refine' bool_item (z := k ^^^ i) lN' ?b2 hyr (by rw [hyl]; exact Nat.xor_lt_two_pow (n := 3) hk hi) (Nat.lt_trans (Nat.xor_lt_two_pow (n := 3) hk hi) (by decide)) ?_
        case b2 => k_mem
        try dsimp only
        k_steps
        all_goals (
          unfold Stop
          rename_i hyb
          exact TestEnd.intro (by assumption) (by assumption) (fun p hp => hp) (by rw [hrb, hyb]; rfl))
    case step5 =>
      intro k ys v J oJ C oC D m₂ h tk E' hk hb hP hC hx F9 N9 off9 ne9
      obtain ⟨t9, hP'⟩ := hP
      rw [Int.zero_add] at hP'
      subst hP'
      try dsimp only
      try simp only [LCg.Off3] at off9
      try k_fold
      k_steps
      unfold Stop
      exact EltEnd.intro (by assumption) (by assumption) (fun p hp => hp) ⟨_, rfl⟩
    intro tzs htr htl
    unfold LCg.FinE
    intro D11 h11 tk11 F9 N9 o11
    simp only [LCg.Off1] at o11
    try dsimp only
    try k_fold
    k_with "call builtin:len" => (refine Stop.out ?_)
    k_steps
    unfold Stop
    rename News _ _ _ _ => lN'
    refine' len_led lN' (.head _) (by rw [htl]; exact filt_le _) ?_
    try dsimp only
    try k_fold
    k_steps
    unfold Stop
    rename News _ _ _ _ => lN'
    refine' len_led (zs := bzs) lN' ?l1 (by rw [hbl]; exact filt_le _) ?_
    case l1 => k_mem
    try dsimp only
    try k_fold
    k_steps
    · rename_i hlt
      rw [htl, hbl] at hlt
      exact absurd hlt (tests_le ds hi)
    · unfold Stop
      rename Fr _ _ _ _ => lF'
      rename News _ _ _ _ => lN'
      refine ForEndC.next lF' lN' _ hdt (fun p hp => .tail _ hp) ⟨hcI, offI⟩ offt ⟨rfl, rfl⟩
  case done1 =>
    clear lF' lN' lM rgX
    rintro m' nw ot vt h tk ⟨rfl, rfl⟩ F9 N9 hdt offt
    try dsimp only
    k_steps

theorem lawW : PySem.Challenge.rw_sr0022_01.Holds := P1.2 ⟨P2.2 ⟨T2⟩ ⟨P3.2 ⟨T3⟩ ⟨T4⟩⟩⟩

end Mine
theorem PySem.Challenge.cw_sr0022_01_holds : PySem.Challenge.rw_sr0022_01.Holds :=
  Mine.lawW
