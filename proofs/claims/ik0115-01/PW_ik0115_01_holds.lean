import PyProof.Rows.All
import Wide.All
import OpenK.AllK
import Wide.FinOn
import Lean
import PySem.Challenge.RW_ik0115_01
set_option maxHeartbeats 0
open PySem PySem.W PyProof.Rows PySem.Calls PySem.Spec
set_option Elab.async false
set_option maxRecDepth 100000
set_option pp.maxSteps 1000000
set_option pp.deepTerms true
set_option rowWalk.seconds 0
namespace Mine
section
noncomputable abbrev topR := @PySem.W.Fast.tw14082659384304107361
noncomputable abbrev seenR := @PySem.W.Fast.tw4187177175401517315
noncomputable abbrev treeR := PySem.W.Fast.tw14364793385576792824
theorem left_whole {p q : Program} {loose : List Str} {Xt : Shared → Bool} {α : Type} {Yf : Shared → α} {Ya : World → α} {N : Nat} {g0 : Bool} {m₀ : Nat} {ann : Option Value}
    (e : opening p = plainProg p.main.scope.names) (hN : Nat.ble 600 N = true) (f : ∀ s, fenceModules? p s = some s)
    (size : ∀ w : World, ((boot_heap w.params).isNs mainGlobals, (boot_heap w.params).objs.size, (boot_heap w.params).nsMap mainGlobals "__annotations__") = (true, m₀, ann))
    (h : ∀ (w : World) (os : OsState), (topR treeR p w m₀ ann N ⟨boot_heap w.params, #[], boot_drawn, boot_toks, os⟩ (topStub p)).map (fun s =>
        ((staticsOk (importedModules p.main.body) (boot_heap w.params) s.heap && namesBound p s.heap && gensDone s && laidKept (boot_heap w.params) s.heap), seenR q loose (importedModules p.main.body) Xt g0 s, Yf s)) = some (true, openGood q loose, Ya w)) :
    LeftO p q loose Xt Yf Ya N g0 := fun w => by
  obtain ⟨⟨h0, gs, d, k, os⟩, e1, e'⟩ := Option.map_eq_some_iff.mp (boot_open e hN f w)
  obtain ⟨rfl, rfl, rfl, rfl⟩ : h0 = boot_heap w.params ∧ gs = #[] ∧ d = boot_drawn ∧ k = boot_toks := by simpa using e'
  obtain ⟨z1, z2, z3⟩ : _ ∧ _ ∧ _ := by simpa only [Prod.mk.injEq] using size w
  have h2 := h w os
  unfold topR seenR treeR at h2
  rw [← PySem.W.Fast.te14082659384304107361, ← PySem.W.Fast.te4187177175401517315, ← PySem.W.Fast.te14364793385576792824] at h2
  obtain ⟨s1, r, hs⟩ := Option.map_eq_some_iff.mp h2
  obtain ⟨l1, l2, l3⟩ : _ ∧ _ ∧ _ := by simpa only [Prod.mk.injEq] using hs
  have t : topFrom treeTable p w N ⟨boot_heap w.params, #[], boot_drawn, boot_toks, os⟩ = some s1 := by
    unfold topFrom
    dsimp only
    rw [z1, z2, z3, r]
    show (match staticsOk (importedModules p.main.body) (boot_heap w.params) s1.heap && namesBound p s1.heap && gensDone s1 && laidKept (boot_heap w.params) s1.heap with | true => _ | false => _) = _
    rw [l1]
  unfold openEnds
  rw [e1]
  show Option.map _ (topFrom treeTable p w N _) = _
  rw [t]
  show some (_, _) = _
  rw [l2, l3]
noncomputable abbrev Pw := PySem.Challenge.pw_ik0115_01
noncomputable def vw : Program := view Pw [0, 2, 4, 5, 6, 7, 9, 10, 11, 12, 13, 14, 16, 17, 18, 19, 20]
noncomputable def lo : List Str := [Str.ofString "_tuplegetter", Str.ofString "Mismatch", Str.ofString "_Mismatch"]
theorem w_said : (PySem.Challenge.rw_ik0115_01).wellSaid = true := (congrFun PySem.W.Fast.te9446332074065402090 _).trans (by kernel_rfl)
theorem o_plain : opening Pw = plainProg Pw.main.scope.names := by kernel_rfl
theorem o_fence : ∀ s, fenceModules? Pw s = some s := fun s => by kernel_rfl
theorem o_size : ∀ w : World, ((boot_heap w.params).isNs mainGlobals, (boot_heap w.params).objs.size, (boot_heap w.params).nsMap mainGlobals "__annotations__") = (true, 11, some (.ref 6)) := fun w => by kernel_rfl
local macro_rules | `(tactic| o_law) => `(tactic| refine holds_law w_said fun said => ?_)
local macro_rules | `(tactic| o_head $H:term) => `(tactic| (
  refine holds_open (q := vw) (loose := lo) (Xt := fun s => xlAt vw [] s && recOk (PySem.Challenge.rw_ik0115_01).row.records s) (XP := XL vw []) (Yf := Hook.obs $H) (Ya := Hook.val $H) (YP := Hook.says $H) (N := 3860) ?hl (Hook.of $H) (Hook.keeps $H) (fun s e => xl_of s (Bool.and_eq_true_iff.mp e).1) XL.keeps (by rfl) (by rfl) (by rfl) (fun s e => recFacts_of (Bool.and_eq_true_iff.mp e).2) (by rfl) (by first | assumption | decide +kernel) (by decide +kernel) ⟨rfl, rfl, rfl, rfl, rfl, by decide +kernel⟩ ?hw ?hc
  case hl => exact left_whole (p := Pw) o_plain (by decide) o_fence o_size (fun w os => by kernel_rfl)))
open_top hd for PySem.Challenge.rw_ik0115_01
end
section
structure Hold (p : Prop) : Prop where
  intro ::
  out : p
theorem unhold {p : Prop} (h : Hold p) : p := h.out
noncomputable abbrev Pg := PySem.Challenge.rw_ik0115_01.row.prog
noncomputable abbrev KK (w : World) : Frag := hd.heap_1 w.params
noncomputable def Ctr (w : World) (k : Nat) (f : Addr) (vs : List Value) (news : List (Addr × Obj)) (Post : Value → List (Addr × Obj) → Prop) : Prop :=
  ∀ (p : Program) (loose : List Str) (mean : ExcName → Option Value) (mg mb : Str → Option Value) (dp un : Nat) (gd : Option (List Code)) (cn : Str) (cs : Scope) (a : Addr) (ccd : Value) (cl : List (Str × Addr)) (outer : List Env) (A₀ : Around) (base h₀ : Heap) (L : Addr) (m : Str → Option Value) (s : Shared) (Q E : Value → Shared → Prop),
    Below A₀ base outer h₀ → Fr h₀ L s.heap m → (KK w).In h₀ → News h₀ L s.heap news → Top p loose mean mg mb h₀ → cs.kind = .function → dp + k < recursionLimit → un + 40 * k < cLine →
    (∀ r news' h' tk', Fr h₀ L h' m → News h₀ L h' news' → Post r news' → Q r { s with heap := h', toks := tk' }) →
    wpAny (model Pg w) (ktrTop dp un gd cn cs L a ccd cl outer) (call (.ref f) vs) Q E s
theorem Ctr.use {w : World} {k : Nat} {f : Addr} {vs : List Value} {news : List (Addr × Obj)} {Post : Value → List (Addr × Obj) → Prop} (C : Ctr w k f vs news Post)
  {p : Program} {loose : List Str} {mean : ExcName → Option Value} {mg mb : Str → Option Value} {dp un : Nat} {gd : Option (List Code)} {cn : Str} {cs : Scope} {a : Addr} {ccd : Value} {cl : List (Str × Addr)} {outer : List Env} {A₀ : Around} {base h₀ : Heap} {L : Addr} {m : Str → Option Value} {s : Shared} {Q E : Value → Shared → Prop}
  (B : Below A₀ base outer h₀) (F : Fr h₀ L s.heap m) (X : (KK w).In h₀) (N : News h₀ L s.heap news) (T : Top p loose mean mg mb h₀) (hk : cs.kind = .function) (hd : dp + k < recursionLimit) (hu : un + 40 * k < cLine)
  (ret : ∀ r news' h' tk', Fr h₀ L h' m → News h₀ L h' news' → Post r news' → Q r { s with heap := h', toks := tk' }) :
  wpAny (model Pg w) (ktrTop dp un gd cn cs L a ccd cl outer) (call (.ref f) vs) Q E s := C _ _ _ _ _ _ _ _ _ _ _ _ _ _ _ _ _ _ _ _ _ _ B F X N T hk hd hu ret
theorem Ctr.mk {w : World} {k : Nat} {f : Addr} {vs : List Value} {news : List (Addr × Obj)} {Post : Value → List (Addr × Obj) → Prop}
  (h : ∀ (p : Program) (loose : List Str) (mean : ExcName → Option Value) (mg mb : Str → Option Value) (dp un : Nat) (gd : Option (List Code)) (cn : Str) (cs : Scope) (a : Addr) (ccd : Value) (cl : List (Str × Addr)) (outer : List Env) (A₀ : Around) (base h₀ : Heap) (L : Addr) (m : Str → Option Value) (s : Shared) (Q E : Value → Shared → Prop),
    Below A₀ base outer h₀ → Fr h₀ L s.heap m → (hd.heap_1 w.params).In h₀ → News h₀ L s.heap news → Top p loose mean mg mb h₀ → cs.kind = .function → dp + k < recursionLimit → un + 40 * k < cLine →
    (∀ r news' h' tk', Fr h₀ L h' m → News h₀ L h' news' → Post r news' → Hold (Q r { s with heap := h', toks := tk' })) →
    wpAny (model Pg w) (ktrTop dp un gd cn cs L a ccd cl outer) (call (.ref f) vs) (fun r s' => Hold (Q r s')) E s) : Ctr w k f vs news Post :=
  fun _ _ _ _ _ _ _ _ _ _ _ _ _ _ _ _ _ _ _ _ _ _ B F X N T hk hd hu ret => wpAny_mono (h _ _ _ _ _ _ _ _ _ _ _ _ _ _ _ _ _ _ _ _ _ _ B F X N T hk hd hu fun r n' h' t' F' N' P' => ⟨ret r n' h' t' F' N' P'⟩) (fun _ _ q => q.out) fun _ _ e => e
theorem kfill (w : World) : hd.heap_1 w.params = hd.heap_1 w.params ∧ PySem.Challenge.rw_ik0115_01 = PySem.Challenge.rw_ik0115_01 := ⟨rfl, rfl⟩
theorem sub_fwd {l l' : List (Addr × Obj)} {P : Addr × Obj → Prop} (h : ∀ p ∈ l, P p) (s : ∀ p ∈ l', p ∈ l) : ∀ p ∈ l', P p := fun p hp => h p (s p hp)
theorem sub_cons2 {a b : Addr × Obj} {l l' : List (Addr × Obj)} (ha : a ∈ l) (hb : b ∈ l) (s : ∀ p ∈ l', p ∈ l) : ∀ p ∈ a :: b :: l', p ∈ l := List.forall_mem_cons.mpr ⟨ha, List.forall_mem_cons.mpr ⟨hb, s⟩⟩
theorem sub_nil {l : List (Addr × Obj)} : ∀ p ∈ ([] : List (Addr × Obj)), p ∈ l := fun _ h => nomatch h
theorem sub_cons {a : Addr × Obj} {l l' : List (Addr × Obj)} (ha : a ∈ l) (s : ∀ p ∈ l', p ∈ l) : ∀ p ∈ a :: l', p ∈ l := List.forall_mem_cons.mpr ⟨ha, s⟩
theorem sub_app {l l₁ l₂ : List (Addr × Obj)} (h₁ : ∀ p ∈ l₁, p ∈ l) (h₂ : ∀ p ∈ l₂, p ∈ l) : ∀ p ∈ l₁ ++ l₂, p ∈ l := List.forall_mem_append.mpr ⟨h₁, h₂⟩
theorem adr_lt {l l' : List (Addr × Obj)} {adr : List Addr} {D : Addr} (h : ∀ p ∈ l, @LT.lt Nat _ p.1 D) (e : l'.map (·.1) = adr) (s : ∀ p ∈ l', p ∈ l) : ∀ b ∈ adr, @LT.lt Nat _ b D := by
  subst e
  intro b hb
  obtain ⟨p, hp, rfl⟩ := List.mem_map.mp hb
  exact h p (s p hp)
end
local macro_rules | `(tactic| k_steps) => `(tactic| repeat' (first | (k_unfold; (try dsimp only)) | (k_end; (fail_if_success (with_reducible refine Hold.intro ?_)); kc_close) | walk1 | (dsimp only; walk1) | (leave1; (try dsimp only)) | fail "no step"))
local macro_rules | `(tactic| k_all) => `(tactic| with_reducible assumption)
local macro_rules | `(tactic| kst_anyIn) => `(tactic| first | exact sub_nil | (refine sub_cons (by kst_entry) ?_; kst_anyIn) | (refine sub_app ?_ ?_ <;> kst_anyIn))
local macro_rules | `(tactic| kst_inAny) => `(tactic| ((try dsimp only [List.nil_append, List.cons_append]); with_unfolding_all kst_anyIn))
local macro_rules
  | `(tactic| walk_at "KswEnd") => `(tactic| refine unhold ?_)
  | `(tactic| walk_at "InvEndN") => `(tactic| refine unhold ?_)
  | `(tactic| walk_at "LoopStep3") => `(tactic| refine unhold ?_)
  | `(tactic| walk_at "LoopStep2") => `(tactic| refine unhold ?_)
  | `(tactic| walk_at "CompEnd") => `(tactic| refine unhold ?_)
  | `(tactic| walk_at "CompSrc") => `(tactic| refine unhold ?_)
  | `(tactic| walk_at "CompSrcT") => `(tactic| refine unhold ?_)
  | `(tactic| walk_at "CcEnd") => `(tactic| refine unhold ?_)
  | `(tactic| walk_at "CcSrc") => `(tactic| refine unhold ?_)
  | `(tactic| walk_at "InvEndG") => `(tactic| refine unhold ?_)
section
noncomputable def sdF (x : Int) : Nat → List Int → Nat → List Int
  | 0, l, pos => l.set pos x
  | f + 1, l, pos => if 0 < pos then if x < l.getD ((pos-1)/2) 0 then sdF x f (l.set pos (l.getD ((pos-1)/2) 0)) ((pos-1)/2) else l.set pos x else l.set pos x
theorem sdF_any (x : Int) : ∀ (f g : Nat) (l : List Int) (pos : Nat), pos ≤ f → pos ≤ g → sdF x f l pos = sdF x g l pos
  | 0, 0, _, _, _, _ => rfl
  | 0, g + 1, l, pos, h, _ => by rw [sdF, sdF, if_neg (by omega)]
  | f + 1, 0, l, pos, _, h => by rw [sdF, sdF, if_neg (by omega)]
  | f + 1, g + 1, l, pos, h1, h2 => by
    rw [sdF, sdF, sdF_any x f g _ ((pos-1)/2) (by omega) (by omega)]
@[irreducible] noncomputable def sd (x : Int) (l : List Int) (pos : Nat) : List Int := sdF x pos l pos
theorem sd_eq (x : Int) (l : List Int) (pos : Nat) : sd x l pos = if 0 < pos then
    if x < l.getD ((pos-1)/2) 0 then sd x (l.set pos (l.getD ((pos-1)/2) 0)) ((pos-1)/2) else l.set pos x
  else l.set pos x := by
  unfold sd
  rw [sdF_any x pos (pos + 1) l pos (Nat.le_refl _) (Nat.le_succ _), sdF, sdF_any x pos ((pos-1)/2) _ _ (by omega) (Nat.le_refl _)]
theorem half_eq {p : Int} (h : 0 < p) : (p - 1).fdiv (2 ^ Int.toNat 1) = (((p.toNat - 1) / 2 : Nat) : Int) := by
  rw [show ((2 : Int) ^ Int.toNat 1) = 2 from rfl, Int.fdiv_eq_ediv_of_nonneg _ (by decide)]
  omega
theorem siftdown_c (w : World) {H : Addr} {us : List Value} {ns : List Int} {n : Nat} {rest : List (Addr × Obj)} {pos : Int} {t0 t1 : Tok} (hi : IntsAre us ns) (h0 : 0 ≤ pos) (h1 : pos < ns.length) (hlen : ns.length ≤ 1000) (hr : ∀ p ∈ rest, p.1 ≠ H) :
    Ctr w 2 49 [.ref H, .int 0 t0, .int pos t1] ((H, listOf us.toArray n) :: rest) (fun r news' => r = .none ∧ ∃ us', IntsAre us' (sd (ns.getD pos.toNat 0) ns pos.toNat) ∧ news' = (H, listOf us'.toArray n) :: rest) := by
  k_with_none
  w_top off
  have hkf := kfill w
  (revert hkf; k_fill; intro hkf)
  clear hkf
  refine Ctr.mk ?_
  k_with "exec While Compare cons nil" => (refine unhold ?_)
  intro p_ loose mean mg mb dp un gd cn cs a ccd cl outer A₀ base h₀ L m s Q E B F X N T hk hdp hun hret
  refine wpAny_call ?_
  k_dflt cell_enter
  k_steps
  refine Hold.intro ?_
  (rename Fr _ _ _ _ => F9); (rename News _ _ _ _ => N9)
  refine' ksw_while (σ := List Value × List Int × Int × Tok) (fun c => (H, listOf c.1.toArray n) :: rest) (fun c => [(Str.ofString "pos", .int c.2.2.1 c.2.2.2)])
    (fun c => IntsAre c.1 c.2.1) [Str.ofString "parentpos", Str.ofString "parent"]
    (fun c => 0 ≤ c.2.2.1 ∧ c.2.2.1 < c.2.1.length ∧ c.2.1.length = ns.length ∧ sd (ns.getD pos.toNat 0) c.2.1 c.2.2.1.toNat = sd (ns.getD pos.toNat 0) ns pos.toNat)
    (fun c => c.2.2.1.toNat) (us, ns, pos, t1) F9 N9 (by assumption) (by kst_all) ⟨h0, h1, rfl, rfl⟩ ?_ ?_
  · rintro ⟨us1, ns1, p1, tp⟩ u h tk2 hi1 ⟨a0, a1, a2, a3⟩ F2 N2
    clear F9 N9
    try dsimp only at hi1 a0 a1 a2 a3 F2 N2
    try dsimp only [kstB] at F2
    try k_fold
    have hs : sd (ns.getD pos.toNat 0) ns1 p1.toNat = if 0 < p1.toNat then
      if (ns.getD pos.toNat 0) < ns1.getD ((p1.toNat-1)/2) 0 then sd (ns.getD pos.toNat 0) (ns1.set p1.toNat (ns1.getD ((p1.toNat-1)/2) 0)) ((p1.toNat-1)/2) else ns1.set p1.toNat (ns.getD pos.toNat 0)
      else ns1.set p1.toNat (ns.getD pos.toNat 0) := by rw [sd_eq]
    by_cases hp : 0 < p1
    · have q0 := half_eq hp
      have q1 : 0 ≤ (p1 - 1).fdiv (2 ^ Int.toNat 1) := by omega
      have q2 : (p1 - 1).fdiv (2 ^ Int.toNat 1) < ns1.length := by omega
      k_steps
      · rename IntsAre (List.set _ _ _) _ => hI
        rename Fr _ _ _ _ => F3
        rename News _ _ _ _ => N3
        refine Hold.intro (ksw_end ⟨_, _, _, _⟩ F3 N3 (fun _ h => h) hI (by kst_all) (by ksw_same) ?_ ?_)
        · have e : ((p1 - 1).fdiv (2 ^ Int.toNat 1)).toNat = (p1.toNat - 1) / 2 := by omega
          dsimp only
          refine ⟨by omega, by simp only [List.length_set]; omega, by simp only [List.length_set]; omega, ?_⟩
          rw [← a3, hs, if_pos (by omega), if_pos (by rw [← e]; omega), e]
        · dsimp only
          omega
      · rename IntsAre (List.set _ _ _) _ => hI
        refine hret _ _ _ _ (by assumption) (by assumption) ⟨rfl, _, ?_, rfl⟩
        have e : ((p1 - 1).fdiv (2 ^ Int.toNat 1)).toNat = (p1.toNat - 1) / 2 := by omega
        rw [← a3, hs, if_pos (by omega), if_neg (by rw [← e]; omega)]
        exact hI
    · k_steps
      rename IntsAre (List.set _ _ _) _ => hI
      refine hret _ _ _ _ (by assumption) (by assumption) ⟨rfl, _, ?_, rfl⟩
      rw [← a3, hs, if_neg (by omega)]
      exact hI
  · passes_own
end
section
noncomputable def suc (l : List Int) (pos : Nat) : Nat := if 2 * pos + 1 + 1 < l.length ∧ ¬ l.getD (2 * pos + 1) 0 < l.getD (2 * pos + 1 + 1) 0 then 2 * pos + 1 + 1 else 2 * pos + 1
theorem suc_lt {l : List Int} {pos : Nat} (h : 2 * pos + 1 < l.length) : suc l pos < l.length := by unfold suc; split <;> omega
theorem lt_suc {l : List Int} {pos : Nat} : pos < suc l pos := by unfold suc; split <;> omega
noncomputable def suF : Nat → List Int → Nat → List Int × Nat
  | 0, l, pos => (l, pos)
  | f + 1, l, pos => if 2 * pos + 1 < l.length then suF f (l.set pos (l.getD (suc l pos) 0)) (suc l pos) else (l, pos)
theorem suF_any : ∀ (f g : Nat) (l : List Int) (pos : Nat), l.length - pos ≤ f → l.length - pos ≤ g → suF f l pos = suF g l pos
  | 0, 0, _, _, _, _ => rfl
  | 0, g + 1, l, pos, h, _ => by rw [suF, suF, if_neg (by omega)]
  | f + 1, 0, l, pos, _, h => by rw [suF, suF, if_neg (by omega)]
  | f + 1, g + 1, l, pos, h1, h2 => by
    rw [suF, suF]
    split
    · rename_i h
      have h3 := suc_lt h
      have h4 := @lt_suc l pos
      exact suF_any f g _ _ (by rw [List.length_set]; omega) (by rw [List.length_set]; omega)
    · rfl
@[irreducible] noncomputable def su (l : List Int) (pos : Nat) : List Int × Nat := suF (l.length - pos) l pos
theorem su_eq (l : List Int) (pos : Nat) : su l pos = if 2 * pos + 1 < l.length then su (l.set pos (l.getD (suc l pos) 0)) (suc l pos) else (l, pos) := by
  unfold su
  rw [suF_any _ (l.length - pos + 1) l pos (Nat.le_refl _) (Nat.le_succ _), suF]
  split
  · rename_i h
    have h4 := @lt_suc l pos
    exact suF_any _ _ _ _ (by rw [List.length_set]; omega) (Nat.le_refl _)
  · rfl
noncomputable def sup (x : Int) (l : List Int) : List Int := sd x ((su l 0).1.set (su l 0).2 x) (su l 0).2
theorem heappush_c (w : World) {H : Addr} {us : List Value} {ns : List Int} {n : Nat} {rest : List (Addr × Obj)} {x : Int} {t0 : Tok} (hi : IntsAre us ns) (hlen : ns.length ≤ 500) (hr : ∀ p ∈ rest, p.1 ≠ H) :
    Ctr w 4 35 [.ref H, .int x t0] ((H, listOf us.toArray n) :: rest) (fun r news' => r = .none ∧ ∃ us' n', IntsAre us' (sd x (ns ++ [x]) ns.length) ∧ news' = (H, listOf us'.toArray n') :: rest) := by
  k_with_none
  w_top off
  have hkf := kfill w
  (revert hkf; k_fill; intro hkf)
  clear hkf
  refine Ctr.mk ?_
  k_with "call ref" => (refine unhold ?_)
  have hul := hi.length
  have hi2 := IntsAre.append hi (.cons x t0 .nil)
  intro p_ loose mean mg mb dp un gd cn cs a ccd cl outer A₀ base h₀ L m s Q E B F X N T hk hdp hun hret
  refine wpAny_call ?_
  k_dflt cell_enter
  try k_fold
  k_steps
  refine Hold.intro ?_
  refine' Ctr.use (siftdown_c w hi2 (by omega) (by simp only [List.length_append, List.length_cons, List.length_nil]; omega) (by simp only [List.length_append, List.length_cons, List.length_nil]; omega) hr) ?k1 ?k2 ?k3 ?k4 ?k5 ?k6 ?k7 ?k8 ?_
  (case k1 => k_asm); (case k2 => k_asm); (case k3 => k_asm); (case k5 => k_asm); (case k6 => first | exact rfl | assumption); (case k7 => ktr_room); (case k8 => ktr_units)
  (case k4 => k_asm)
  rintro r9 n9 h9 t9 F9 N9 ⟨rfl, us', hi3, rfl⟩
  try k_fold
  k_steps
  refine hret _ _ _ _ (by assumption) (by assumption) ⟨rfl, _, _, ?_, rfl⟩
  have e : (((ns.length + 1 : Nat) : Int) - 1).toNat = ns.length := by omega
  rw [e] at hi3
  simpa using hi3
end
section
theorem su_step {l : List Int} {p c : Nat} (hc : suc l p = c) (hlt : 2 * p + 1 < l.length) : su (l.set p (l.getD c 0)) c = su l p := by
  rw [su_eq l p, if_pos hlt, hc]
theorem su_stop {l : List Int} {p : Nat} (h : ¬ 2 * p + 1 < l.length) : su l p = (l, p) := by
  rw [su_eq l p, if_neg h]
theorem nat_l {p : Int} (h : 0 ≤ p) : (2 * p + 1).toNat = 2 * p.toNat + 1 := by omega
theorem nat_r {p : Int} (h : 0 ≤ p) : (2 * p + 1 + 1).toNat = 2 * p.toNat + 1 + 1 := by omega
theorem mes_l {n : Nat} {p : Int} (h : 0 ≤ p) (h1 : 2 * p + 1 < (n : Int)) : n - (2 * p + 1).toNat < n - p.toNat := by omega
theorem mes_r {n : Nat} {p : Int} (h : 0 ≤ p) (h1 : 2 * p + 1 + 1 < (n : Int)) : n - (2 * p + 1 + 1).toNat < n - p.toNat := by omega
theorem siftup_c (w : World) {H : Addr} {us : List Value} {ns : List Int} {n : Nat} {rest : List (Addr × Obj)} {t0 : Tok} (hi : IntsAre us ns) (hne : 0 < ns.length) (hlen : ns.length ≤ 500) (hr : ∀ p ∈ rest, p.1 ≠ H) :
    Ctr w 4 56 [.ref H, .int 0 t0] ((H, listOf us.toArray n) :: rest) (fun r news' => r = .none ∧ ∃ us', IntsAre us' (sup (ns.getD 0 0) ns) ∧ news' = (H, listOf us'.toArray n) :: rest) := by
  k_with_none
  w_top off
  have hkf := kfill w
  (revert hkf; k_fill; intro hkf)
  clear hkf
  refine Ctr.mk ?_
  k_with "call ref" => (refine unhold ?_)
  k_with "exec While Compare cons nil" => (refine unhold ?_)
  have hul := hi.length
  intro p_ loose mean mg mb dp un gd cn cs a ccd cl outer A₀ base h₀ L m s Q E B F X N T hk hdp hun hret
  refine wpAny_call ?_
  k_dflt cell_enter
  try k_fold
  k_steps
  refine Hold.intro ?_
  (rename Fr _ _ _ _ => F9); (rename News _ _ _ _ => N9)
  refine' ksw_while (σ := List Value × List Int × Int × Tok × Tok) (fun c => (H, listOf c.1.toArray n) :: rest) (fun c => [(Str.ofString "pos", .int c.2.2.1 c.2.2.2.1), (Str.ofString "childpos", .int (2 * c.2.2.1 + 1) c.2.2.2.2)])
    (fun c => IntsAre c.1 c.2.1) [Str.ofString "rightpos"]
    (fun c => 0 ≤ c.2.2.1 ∧ c.2.2.1 < c.2.1.length ∧ c.2.1.length = ns.length ∧ su c.2.1 c.2.2.1.toNat = su ns 0)
    (fun c => c.2.1.length - c.2.2.1.toNat) (us, ns, 0, _, _) F9 N9 (by assumption) (by kst_all) ⟨Int.le_refl _, by dsimp only; omega, rfl, rfl⟩ ?_ ?_
  · rintro ⟨us1, ns1, p1, tp, tq⟩ u h tk2 hi1 ⟨a0, a1, a2, a3⟩ F2 N2
    clear F9 N9
    try dsimp only at hi1 a0 a1 a2 a3 F2 N2
    try dsimp only [kstB] at F2
    try k_fold
    have hul1 := hi1.length
    have e1 := nat_l a0
    have e2 := nat_r a0
    try k_fold
    k_steps
    · rename IntsAre (List.set _ _ _) _ => hI
      rename Fr _ _ _ _ => F3
      rename News _ _ _ _ => N3
      rename List.getD _ _ _ < List.getD _ _ _ => hlt
      refine Hold.intro (ksw_end ⟨_, _, _, _, _⟩ F3 N3 (fun _ h => h) hI (by kst_all) (by ksw_same) ?_ ?_)
      · dsimp only
        refine ⟨by omega, by simp only [List.length_set]; omega, by simp only [List.length_set]; omega, ?_⟩
        rw [← a3]
        refine su_step ?_ (by omega)
        unfold suc
        rw [← e2, ← e1, if_neg (fun h => h.2 hlt)]
      · dsimp only
        simp only [List.length_set]
        first | exact mes_r a0 (by omega) | exact mes_l a0 (by omega)
    · rename IntsAre (List.set _ _ _) _ => hI
      rename Fr _ _ _ _ => F3
      rename News _ _ _ _ => N3
      rename ¬ List.getD _ _ _ < List.getD _ _ _ => hlt
      refine Hold.intro (ksw_end ⟨_, _, _, _, _⟩ F3 N3 (fun _ h => h) hI (by kst_all) (by ksw_same) ?_ ?_)
      · dsimp only
        refine ⟨by omega, by simp only [List.length_set]; omega, by simp only [List.length_set]; omega, ?_⟩
        rw [← a3]
        refine su_step ?_ (by omega)
        unfold suc
        rw [← e2, ← e1, if_pos ⟨by omega, hlt⟩]
      · dsimp only
        simp only [List.length_set]
        first | exact mes_r a0 (by omega) | exact mes_l a0 (by omega)
    · rename IntsAre (List.set _ _ _) _ => hI
      rename Fr _ _ _ _ => F3
      rename News _ _ _ _ => N3
      refine Hold.intro (ksw_end ⟨_, _, _, _, _⟩ F3 N3 (fun _ h => h) hI (by kst_all) (by ksw_same) ?_ ?_)
      · dsimp only
        refine ⟨by omega, by simp only [List.length_set]; omega, by simp only [List.length_set]; omega, ?_⟩
        rw [← a3]
        refine su_step ?_ (by omega)
        unfold suc
        rw [if_neg (fun h => by omega), e1]
      · dsimp only
        simp only [List.length_set]
        first | exact mes_r a0 (by omega) | exact mes_l a0 (by omega)
    · rename IntsAre (List.set _ _ _) _ => hI
      have e := su_stop (l := ns1) (p := p1.toNat) (by omega)
      refine Hold.intro ?_
      refine' Ctr.use (siftdown_c w hI (by omega) (by simp only [List.length_set]; omega) (by simp only [List.length_set]; omega) hr) ?k1 ?k2 ?k3 ?k4 ?k5 ?k6 ?k7 ?k8 ?_
      (case k1 => k_asm); (case k2 => k_asm); (case k3 => k_asm); (case k5 => k_asm); (case k6 => first | exact rfl | assumption); (case k7 => ktr_room); (case k8 => ktr_units)
      (case k4 => k_asm)
      rintro r9 n9 h9 t9 F9 N9 ⟨rfl, us', hi3, rfl⟩
      try k_fold
      k_steps
      refine hret _ _ _ _ (by assumption) (by assumption) ⟨rfl, _, ?_, rfl⟩
      unfold sup
      rw [← a3, e]
      have q : p1.toNat < ns1.length := by omega
      simpa [List.getD_eq_getElem?_getD, q] using hi3
  · passes_own
end
section
noncomputable def hpop (ns : List Int) : Int × List Int :=
  if ns.length ≤ 1 then (ns.getLastD 0, []) else (ns.dropLast.getD 0 0, sup (ns.getLastD 0) (ns.dropLast.set 0 (ns.getLastD 0)))
theorem heappop_c (w : World) {H : Addr} {us : List Value} {ns : List Int} {n : Nat} {rest : List (Addr × Obj)} (hi : IntsAre us ns) (hne : 0 < ns.length) (hlen : ns.length ≤ 500) (hr : ∀ p ∈ rest, p.1 ≠ H) :
    Ctr w 6 42 [.ref H] ((H, listOf us.toArray n) :: rest) (fun r news' => ∃ t us' n', r = .int (hpop ns).1 t ∧ IntsAre us' (hpop ns).2 ∧ news' = (H, listOf us'.toArray n') :: rest) := by
  k_with_none
  w_top off
  have hkf := kfill w
  (revert hkf; k_fill; intro hkf)
  clear hkf
  refine Ctr.mk ?_
  k_with "call ref" => (refine unhold ?_)
  have hul := hi.length
  have hne' : 0 < us.length := by omega
  have hdl : us.dropLast.length = ns.length - 1 := by rw [List.length_dropLast]; omega
  have hdn : ns.dropLast.length = ns.length - 1 := by rw [List.length_dropLast]
  intro p_ loose mean mg mb dp un gd cn cs a ccd cl outer A₀ base h₀ L m s Q E B F X N T hk hdp hun hret
  refine wpAny_call ?_
  k_dflt cell_enter
  by_cases h1 : ns.length ≤ 1
  · k_steps
    rename IntsAre _ _ => hI
    refine hret _ _ _ _ (by assumption) (by assumption) ⟨_, _, _, congrArg (fun z => Value.int z _) (by unfold hpop; rw [if_pos h1]), ?_, rfl⟩
    · unfold hpop; rw [if_pos h1]
      have e : ns.dropLast = [] := List.length_eq_zero_iff.mp (by omega)
      rw [e] at hI
      exact hI
  · k_steps
    rename IntsAre (List.set _ _ _) _ => hI
    refine Hold.intro ?_
    refine' Ctr.use (siftup_c w hI (by simp only [List.length_set]; omega) (by simp only [List.length_set]; omega) hr) ?k1 ?k2 ?k3 ?k4 ?k5 ?k6 ?k7 ?k8 ?_
    (case k1 => k_asm); (case k2 => k_asm); (case k3 => k_asm); (case k5 => k_asm); (case k6 => first | exact rfl | assumption); (case k7 => ktr_room); (case k8 => ktr_units)
    (case k4 => k_asm)
    rintro r9 n9 h9 t9 F9 N9 ⟨rfl, us', hi3, rfl⟩
    try k_fold
    k_steps
    refine hret _ _ _ _ (by assumption) (by assumption) ⟨_, _, _, congrArg (fun z => Value.int z _) (by unfold hpop; rw [if_neg h1]; rfl), ?_, rfl⟩
    · unfold hpop; rw [if_neg h1]
      have q : 0 < ns.dropLast.length := by omega
      have e : (ns.dropLast.set (Int.toNat 0) (ns.getLastD 0)).getD 0 0 = ns.getLastD 0 := by
        rw [List.getD_eq_getElem?_getD, show Int.toNat 0 = 0 from rfl, List.getElem?_set_self q, Option.getD_some]
      rw [e] at hi3
      exact hi3
end
section
noncomputable def skipF (l : List Nat) : Nat → Nat → Nat
  | 0, p => p
  | f + 1, p => if p < l.length ∧ l.getD p 0 = 120 then skipF l f (p + 1) else p
@[irreducible] noncomputable def skipTo (l : List Nat) (p : Nat) : Nat := skipF l (l.length - p) p
theorem skipTo_eq (l : List Nat) (p : Nat) : skipTo l p = if p < l.length ∧ l.getD p 0 = 120 then skipTo l (p + 1) else p := by
  unfold skipTo
  by_cases h : p < l.length
  · rw [show l.length - p = (l.length - (p + 1)) + 1 by omega]; rfl
  · rw [show l.length - p = 0 by omega, if_neg (fun q => h q.1)]; rfl
theorem skipTo_ind (l : List Nat) {P : Nat → Prop} (h1 : ∀ p, (p < l.length ∧ l.getD p 0 = 120) → P (p + 1) → P p) (h2 : ∀ p, ¬ (p < l.length ∧ l.getD p 0 = 120) → P p) : ∀ p, P p := by
  suffices ∀ k p, l.length - p = k → P p from fun p => this _ p rfl
  intro k
  induction k with
  | zero => intro p hk; exact h2 p fun q => by have := q.1; omega
  | succ k ih =>
    intro p hk
    by_cases h : p < l.length ∧ l.getD p 0 = 120
    · exact h1 p h (ih (p + 1) (by omega))
    · exact h2 p h
theorem skipTo_ge (l : List Nat) (p : Nat) : p ≤ skipTo l p := by
  revert p
  refine skipTo_ind l (fun p h ih => ?_) fun p h => ?_
  · rw [skipTo_eq, if_pos h]; omega
  · rw [skipTo_eq, if_neg h]; exact Nat.le_refl p
theorem in_x {S : Str} {p : Int} (h0 : 0 ≤ p) (h1 : p < S.length) : (Builtin.Str.occurrences (Str.ofString "x") (Txt.item S p) 0 (Str.ofString "x").length 1).isEmpty = !(decide (S.cps.toList.getD p.toNat 0 = 120)) := by
  have hx : Str.ofString "x" = ⟨#[120]⟩ := by decide +kernel
  have e := StrLaws.found_one ⟨#[120]⟩ (S.cps.getD p.toNat 0)
  have e2 : S.cps.toList.getD p.toNat 0 = S.cps.getD p.toNat 0 := by simp [List.getD_eq_getElem?_getD, Array.getD_eq_getD_getElem?]
  rw [PySem.W.item_meets ⟨h0, h1⟩, hx, e2]
  cases hq : (Builtin.Str.occurrences { cps := #[120] } { cps := #[S.cps.getD p.toNat 0] } 0 (Str.length { cps := #[120] }) 1).isEmpty <;> rw [hq] at e <;> simpa using e
theorem skip_c (w : World) {S : Str} {p : Int} {ts tp : Tok} {tc : Tok} {news : List (Addr × Obj)} (h0 : 0 ≤ p) (hl : S.cps.size ≤ 50) (hf : skipTo S.cps.toList p.toNat < S.cps.size) :
    Ctr w 2 28 [.str S ts, .int p tp, .str (Str.ofString "x") tc] news (fun r news' => (∃ t, r = .int (skipTo S.cps.toList p.toNat : Nat) t) ∧ news' = news) := by
  k_with_none
  w_top off
  have hkf := kfill w
  (revert hkf; k_fill; intro hkf)
  clear hkf
  refine Ctr.mk ?_
  k_with "exec While Compare cons nil" => (refine unhold ?_)
  intro p_ loose mean mg mb dp un gd cn cs a ccd cl outer A₀ base h₀ L m s Q E B F X N T hk hdp hun hret
  refine wpAny_call ?_
  k_dflt cell_enter
  try k_fold
  k_steps
  refine Hold.intro ?_
  (rename Fr _ _ _ _ => F9); (rename News _ _ _ _ => N9)
  refine wpAny_mono (E := fun _ _ => False) ?_ (fun _ _ h => h) (fun _ _ h => h.elim)
  refine' ksw_while (σ := Int × Tok) (fun c => news) (fun c => [(Str.ofString "pos", .int c.1 c.2)])
    (fun c => True) []
    (fun c => 0 ≤ c.1 ∧ c.1 < S.cps.size ∧ skipTo S.cps.toList c.1.toNat = skipTo S.cps.toList p.toNat)
    (fun c => S.cps.size - c.1.toNat) (p, tp) F9 N9 trivial (by kst_all) ⟨h0, by have := skipTo_ge S.cps.toList p.toNat; dsimp only; omega, rfl⟩ ?_ ?_
  · rintro ⟨p1, t1⟩ u h tk2 _ ⟨a0, a1, a2⟩ F2 N2
    clear F9 N9
    try dsimp only at a0 a1 a2 F2 N2
    try dsimp only [kstB] at F2
    try k_fold
    have hSl : S.length = S.cps.size := rfl
    have hin := in_x a0 (S := S) (by omega)
    have hs : skipTo S.cps.toList p1.toNat = if p1.toNat < S.cps.toList.length ∧ S.cps.toList.getD p1.toNat 0 = 120 then skipTo S.cps.toList (p1.toNat + 1) else p1.toNat := by rw [skipTo_eq]
    have hl2 : S.cps.toList.length = S.cps.size := Array.length_toList
    try k_fold
    k_steps
    · rename List.isEmpty _ = true => hb
      rw [hin] at hb
      simp only [Bool.not_eq_true', decide_eq_false_iff_not] at hb
      rw [if_neg (fun h => hb h.2)] at hs
      exact hret _ _ _ _ (by assumption) (by assumption) ⟨⟨_, congrArg (fun z => Value.int z _) (by rw [← a2, hs, Int.toNat_of_nonneg a0])⟩, rfl⟩
    · rename List.isEmpty _ = false => hb
      rw [hin] at hb
      simp only [Bool.not_eq_false', decide_eq_true_eq] at hb
      rename Fr _ _ _ _ => F3
      rename News _ _ _ _ => N3
      rw [if_pos ⟨by omega, hb⟩] at hs
      have e : (p1 + 1).toNat = p1.toNat + 1 := by omega
      have q := skipTo_ge S.cps.toList (p1.toNat + 1)
      refine Hold.intro (ksw_end ⟨_, _⟩ F3 N3 (fun _ h => h) trivial (by kst_all) (by ksw_same) ?_ ?_)
      · dsimp only
        refine ⟨by omega, by omega, ?_⟩
        rw [e, ← a2, hs]
      · dsimp only
        omega
  · passes_own
end
section
noncomputable def fillStep (wn : List Int) (st : List Nat × List Int) (car : Int) : List Nat × List Int :=
  (st.1.take (skipTo st.1 (wn.getD car.toNat 0).toNat) ++ 120 :: st.1.drop (skipTo st.1 (wn.getD car.toNat 0).toNat + 1), st.2.set car.toNat (skipTo st.1 (wn.getD car.toNat 0).toNat : Nat))
noncomputable def filling (wn on : List Int) : List Nat × List Int := on.foldl (fillStep wn) (List.replicate (wn.length + 6) 46, List.replicate wn.length 0)
theorem skipTo_lt {l : List Nat} {p : Nat} (h : p + l.count 120 < l.length) : skipTo l p < l.length := by
  suffices ∀ k p, l.length - p = k → p + (l.drop p).count 120 < l.length → skipTo l p < l.length by
    refine this _ p rfl (Nat.lt_of_le_of_lt ?_ h)
    exact Nat.add_le_add_left ((List.drop_sublist p l).count_le 120) p
  intro k
  induction k with
  | zero => intro p h1 h2; exact absurd h2 (by omega)
  | succ k ih =>
    intro p h1 h2
    rw [skipTo_eq]
    split
    · rename_i h3
      refine ih (p + 1) (by omega) ?_
      have e : l.drop p = l[p] :: l.drop (p + 1) := List.drop_eq_getElem_cons h3.1
      have e2 : l[p] = 120 := by have := h3.2; rwa [List.getD_eq_getElem?_getD, List.getElem?_eq_getElem h3.1, Option.getD_some] at this
      rw [e, e2, List.count_cons_self] at h2
      omega
    · omega
theorem mul_dot (n : Nat) : (Txt.mul (Str.ofString ".") ((n : Int) + 6)).cps.toList = List.replicate (n + 6) 46 := by
  have hx : Str.ofString "." = ⟨#[46]⟩ := by decide +kernel
  have key : ∀ (k : Nat) (a : Array Nat), ((List.replicate k #[46]).foldl (· ++ ·) a).toList = a.toList ++ List.replicate k 46 := by
    intro k
    induction k with
    | zero => intro a; simp
    | succ k ih => intro a; rw [List.replicate_succ, List.foldl_cons, ih, List.replicate_succ]; simp
  unfold Txt.mul
  rw [hx, if_neg (by omega), if_neg (by
    simp only [Bool.or_eq_true, beq_iff_eq]
    rintro (h | h)
    · exact absurd h (by omega)
    · exact absurd h (by decide))]
  have e : ((n : Int) + 6).toNat = n + 6 := by omega
  rw [e]
  generalize n + 6 = k
  exact (key k #[]).trans (by simp)
theorem cut_dot {st : Str} {k : Nat} (h : k < st.cps.size) : (Txt.slice st none (some (k : Int)) ++ Str.ofString "x" ++ Txt.slice st (some ((k : Int) + 1)) none).cps.toList = st.cps.toList.take k ++ 120 :: st.cps.toList.drop (k + 1) := by
  have hx : Str.ofString "x" = ⟨#[120]⟩ := by decide +kernel
  have e1 := eq_of_beq (PyProof.Rows.slice_closes_to (x := st) (j := (k : Int)) ⟨by omega, by rw [Array.length_toList]; omega⟩)
  have e2 := eq_of_beq (PyProof.Rows.slice_closes_from (x := st) (i := (k : Int) + 1) ⟨by omega, by rw [Array.length_toList]; omega⟩)
  rw [e1, e2, hx]
  have q1 : ((k : Int) - 0).toNat = k := by omega
  have q2 : ((k : Int) + 1).toNat = k + 1 := by omega
  have q3 : ((st.cps.toList.length : Int) - ((k : Int) + 1)).toNat = st.cps.toList.length - (k + 1) := by omega
  rw [q1, q2, q3]
  simp only [Str.cps_append]
  simp [List.take_of_length_le]
theorem count_cut {l : List Nat} {k : Nat} (h : k < l.length) : (l.take k ++ 120 :: l.drop (k + 1)).count 120 ≤ l.count 120 + 1 := by
  have e : l = l.take k ++ l[k] :: l.drop (k + 1) := by rw [← List.drop_eq_getElem_cons h, List.take_append_drop]
  have q : l.count 120 = (l.take k).count 120 + (l[k] :: l.drop (k + 1)).count 120 := by
    conv => lhs; rw [e]
    rw [List.count_append]
  rw [List.count_append, List.count_cons_self, q, List.count_cons]
  omega
theorem flat_rep {α : Type} (n : Nat) (a : α) : (List.replicate n [a]).flatten = List.replicate n a := by
  induction n with
  | zero => rfl
  | succ n ih => rw [List.replicate_succ, List.flatten_cons, ih]; rfl
end
section
theorem getD_lt {l : List Int} {i : Nat} (h : i < l.length) (d : Int) : l.getD i d = l[i] := by rw [List.getD_eq_getElem?_getD, List.getElem?_eq_getElem h, Option.getD_some]
theorem count_ite_le {l : List Int} {i : Nat} (h : i < l.length) (b : Int) : (if (l[i] == b) = true then 1 else 0) ≤ l.count b := by
  split
  · rename_i e
    rw [← eq_of_beq e]
    exact List.count_pos_iff.mpr (List.getElem_mem h)
  · exact Nat.zero_le _
theorem swap_perm {l : List Int} {p q : Nat} {x : Int} (hp : p < l.length) (hq : q < l.length) (hpq : p ≠ q) : ((l.set p (l.getD q 0)).set q x).Perm (l.set p x) := by
  rw [List.perm_iff_count]
  intro b
  rw [getD_lt hq]
  rw [List.count_set (by simpa using hq), List.count_set hp, List.count_set hp]
  have e : (l.set p l[q])[q]'(by simpa using hq) = l[q] := by rw [List.getElem_set_ne hpq]
  rw [e]
  have h1 := count_ite_le hp b
  have h2 := count_ite_le hq b
  omega
theorem sd_perm (x : Int) (l : List Int) (p : Nat) (hp : p < l.length) : (sd x l p).Perm (l.set p x) := by
  induction p using Nat.strongRecOn generalizing l with
  | ind p ih =>
    rw [sd_eq]
    split
    · rename_i h0
      split
      · have hq : (p - 1) / 2 < l.length := by omega
        refine (ih ((p - 1) / 2) (by omega) _ (by rw [List.length_set]; exact hq)).trans ?_
        exact swap_perm hp hq (by omega)
      · exact .refl _
    · exact .refl _
theorem su_perm (x : Int) (l : List Int) (p : Nat) (hp : p < l.length) : ((su l p).1.set (su l p).2 x).Perm (l.set p x) := by
  suffices ∀ k l p, l.length - p = k → p < l.length → ((su l p).1.set (su l p).2 x).Perm (l.set p x) from this _ l p rfl hp
  intro k
  induction k using Nat.strongRecOn with
  | ind k ih =>
    intro l p hk hp
    rw [su_eq]
    split
    · rename_i h
      have h1 := suc_lt h
      have h2 := @lt_suc l p
      refine (ih (l.length - suc l p) (by omega) _ _ (by rw [List.length_set]) (by rw [List.length_set]; exact h1)).trans ?_
      exact swap_perm hp h1 (by omega)
    · exact .refl _
theorem su_lens (l : List Int) (p : Nat) (hp : p < l.length) : (su l p).1.length = l.length ∧ (su l p).2 < l.length := by
  suffices ∀ k l p, l.length - p = k → p < l.length → (su l p).1.length = l.length ∧ (su l p).2 < l.length from this _ l p rfl hp
  intro k
  induction k using Nat.strongRecOn with
  | ind k ih =>
    intro l p hk hp
    rw [su_eq]
    split
    · rename_i h
      have h1 := suc_lt h
      have h2 := @lt_suc l p
      have := ih (l.length - suc l p) (by omega) (l.set p (l.getD (suc l p) 0)) _ (by rw [List.length_set]) (by rw [List.length_set]; exact h1)
      simpa using this
    · exact ⟨rfl, hp⟩
theorem sup_perm (x : Int) (l : List Int) (h : 0 < l.length) : (sup x l).Perm (l.set 0 x) := by
  unfold sup
  have q := su_lens l 0 h
  refine (sd_perm x _ _ (by rw [List.length_set, q.1]; exact q.2)).trans ?_
  rw [List.set_set]
  exact su_perm x l 0 h
theorem push_perm (x : Int) (l : List Int) : (sd x (l ++ [x]) l.length).Perm (x :: l) := by
  refine (sd_perm x _ _ (by simp)).trans ?_
  rw [List.set_append]
  simp only [Nat.lt_irrefl, if_false, Nat.sub_self, List.set_cons_zero]
  exact List.perm_append_comm
theorem hpop_perm (l : List Int) (h : 0 < l.length) : ((hpop l).1 :: (hpop l).2).Perm l := by
  unfold hpop
  have hne : l ≠ [] := by intro e; rw [e] at h; exact absurd h (by decide)
  have e := List.dropLast_concat_getLast hne
  have e2 : l.getLastD 0 = l.getLast hne := by
    cases l with
    | nil => exact absurd rfl hne
    | cons a r => rfl
  split
  · rename_i h1
    match l, h, h1 with
    | [a], _, _ => exact .refl _
  · rename_i h1
    have q : 0 < l.dropLast.length := by rw [List.length_dropLast]; omega
    refine (List.Perm.cons _ (sup_perm _ _ (by rw [List.length_set]; exact q))).trans ?_
    rw [List.set_set, e2]
    generalize l.getLast hne = z at e
    generalize l.dropLast = d at e q
    match d, q with
    | a :: r, _ =>
      rw [← e]
      show (a :: z :: r).Perm (a :: r ++ [z])
      exact List.Perm.cons _ (List.perm_append_comm (l₁ := [z]) (l₂ := r))
end
section
section
variable {prog : Program} {w : World} {A : Around} {E : Value → Shared → Prop} {s : Shared} {h₀ : Heap} {L D : Addr} {m : Str → Option Value} {news : List (Addr × Obj)} {n : Nat} {vs : List Value} {ns : List Int} {k : Int} {t : Tok}
theorem my_index {Q : Value → Shared → Prop} (N : News h₀ L s.heap news) (hm : (D, listOf vs.toArray n) ∈ news) (hi : IntsAre vs ns) (hz : ns.length ≤ 1000) (hk : k ∈ ns)
    (h : Q (.int (ns.idxOf k : Nat) s.toks) { s with toks := s.toks + 1 }) : wpAny (model prog w) A (call (.builtin "list.index") [.ref D, .int k t]) Q E s := by
  have hl := hi.length
  have hj : ns.idxOf k < ns.length := List.idxOf_lt_length_iff.mpr hk
  refine call_meets PySem.F.slot_list_index ⟨_, (N _ hm).1, rfl⟩ PySem.F.entry_list_index (PySem.F.args_list_index_2 _ _)
    (MeetsSeq.list_index D vs.toArray n (.int k t) (isInt k) (fun y hy => eq_isInt k t hi y (by simpa using hy)) (ns.idxOf k) (by rw [List.size_toArray]; omega) (by omega) ?_ ?_) ⟨(N _ hm).1, h⟩
  · have := isInt_at k hi (ns.idxOf k) (by omega) hj
    simpa [List.getElem_idxOf hj] using this
  · intro i hi' hlt
    have h2 : i < ns.length := by omega
    have := isInt_at k hi i (by omega) h2
    rw [ne_of_lt_idxOf hlt h2] at this
    simpa using this
theorem my_count {Q : Value → Shared → Prop} (N : News h₀ L s.heap news) (hm : (D, listOf vs.toArray n) ∈ news) (hi : IntsAre vs ns)
    (h : Q (.int (ns.count k : Nat) s.toks) { s with toks := s.toks + 1 }) : wpAny (model prog w) A (call (.builtin "list.count") [.ref D, .int k t]) Q E s := by
  have e : ∀ {vs : List Value} {ns : List Int}, IntsAre vs ns → vs.countP (isInt k) = ns.count k := by
    intro vs ns hi
    induction hi with
    | nil => rfl
    | cons i t _ ih => rw [List.countP_cons, ih, List.count_cons]; rfl
  refine call_meets PySem.F.slot_list_count ⟨_, (N _ hm).1, rfl⟩ PySem.F.entry_list_count (PySem.F.args_list_count_2 _ _)
    (MeetsSeq.list_count D vs.toArray n (.int k t) (isInt k) (fun y hy => eq_isInt k t hi y (by simpa using hy))) ⟨(N _ hm).1, ?_⟩
  rw [show vs.toArray.toList.countP (isInt k) = ns.count k from e hi]
  exact h
theorem ints_erase {vs : List Value} {ns : List Int} (hi : IntsAre vs ns) : ∀ j, IntsAre (vs.eraseIdx j) (ns.eraseIdx j) := by
  induction hi with
  | nil => intro j; exact .nil
  | cons i t r ih =>
    intro j
    cases j with
    | zero => exact r
    | succ j => exact .cons i t (ih j)
theorem my_remove {rest : List (Addr × Obj)} {Q : Value → Shared → Prop} (F : Fr h₀ L s.heap m) (N : News h₀ L s.heap ((D, listOf vs.toArray n) :: rest)) (hr : ∀ p ∈ rest, p.1 ≠ D) (hi : IntsAre vs ns) (hz : ns.length ≤ 1000) (hk : k ∈ ns)
    (h : ∀ h', Fr h₀ L h' m → News h₀ L h' ((D, listOf (vs.eraseIdx (ns.idxOf k)).toArray (n + 1)) :: rest) → IntsAre (vs.eraseIdx (ns.idxOf k)) (ns.erase k) → Q .none { s with heap := h' }) : wpAny (model prog w) A (call (.builtin "list.remove") [.ref D, .int k t]) Q E s := by
  have hl := hi.length
  have hj : ns.idxOf k < ns.length := List.idxOf_lt_length_iff.mpr hk
  have z := N (D, listOf vs.toArray n) (.head _)
  have hq : (vs.eraseIdx (ns.idxOf k)).length = vs.length - 1 := by rw [List.length_eraseIdx, if_pos (by omega)]
  have hI : IntsAre (vs.eraseIdx (ns.idxOf k)) (ns.erase k) := by
    have := ints_erase hi (ns.idxOf k)
    rwa [← List.erase_eq_eraseIdx_of_idxOf (a := k) rfl] at this
  refine call_meets PySem.F.slot_list_remove ⟨_, z.1, rfl⟩ PySem.F.entry_list_remove (PySem.F.args_list_remove_2 _ _)
    (MeetsSeq.list_remove D vs.toArray n (.int k t) (isInt k) (fun y hy => eq_isInt k t hi y (by simpa using hy)) (ns.idxOf k) (by rw [List.size_toArray]; omega) ?_ ?_ (by rw [List.size_toArray, sizeLine_eq]; omega))
    ⟨z.1, h _ (F.change (Heap.SameBut.update ..) z.2.1 z.2.2) (kl_turn (pre := []) (post := rest) _ N (fun _ h => nomatch h) hr ?_ ?_) hI⟩
  · have := isInt_at k hi (ns.idxOf k) (by omega) hj
    simpa [List.getElem_idxOf hj] using this
  · intro i hi' hlt
    have h2 : i < ns.length := by omega
    have := isInt_at k hi i (by omega) h2
    rw [ne_of_lt_idxOf hlt h2] at this
    simpa using this
  · show vs.toArray.eraseIdxIfInBounds (ns.idxOf k) = (vs.eraseIdx (ns.idxOf k)).toArray
    apply Array.toList_inj.mp
    simp [Array.toList_eraseIdxIfInBounds]
  · rw [List.size_toArray, List.size_toArray, hq]
    omega
end
end
section
section
open PyProof.Rows.LCg PyProof.Rows.LCt
variable {prog : Program} {w : World} {A : Around} {E : Value → Shared → Prop} {s : Shared} {h₀ : Heap} {L : Addr} {m : Str → Option Value} {env : Env}
theorem comp_ind {elt : Expr} {x : Str} {scope : Scope} {cl : List (Str × Addr)} {S : List (Addr × Obj) → Prop} {P : Nat → Value → Prop} {Fin : List Value → List (Addr × Obj) → Prop} {n : Nat} (J : Nat → List Value → List (Addr × Obj) → Prop)
    (turn : ∀ i ys news v I oI C oC D m₂ h tk (E' : Value → Shared → Prop), i < n → J i ys news → P i v → NsObj oC m₂ → m₂ x = some v → Fr h₀ L h m → News h₀ L h ((I, oI) :: (C, oC) :: (D, lst ys) :: news) → Off3 I C D news → ((@Ne Nat I C) ∧ (@Ne Nat I D) ∧ (@Ne Nat C D)) →
      wpAny (model prog w) A (eval elt (compEnvC scope cl C env)) (CompEnd h₀ L m { s with heap := h, toks := tk } I oI C oC D (lst ys) S (fun y news' => J (i + 1) (ys ++ [y]) news')) E' { s with heap := h, toks := tk })
    (fin : ∀ ys news, J n ys news → Fin ys news) : ∀ k i ys news, i + k = n → J i ys news → CompRest prog w A h₀ L m env elt x scope cl s S P Fin k i ys news := by
  intro k
  induction k with
  | zero => intro i ys news hi hJ; obtain rfl : i = n := by omega
            exact CompRest.zero (fin ys news hJ)
  | succ k ih =>
    intro i ys news hi hJ
    refine CompRest.succ fun v I oI C oC D m₂ h tk E' hP hC hx F N off ne => ?_
    refine wpAny_mono (turn i ys news v I oI C oC D m₂ h tk E' (by omega) hJ hP hC hx F N off ne) (fun y s₂ q => ?_) fun _ _ e => e
    obtain ⟨h', tk', nw, e, F', N', off', hS, hJ'⟩ := q
    exact ⟨h', tk', nw, e, F', N', off', hS, ih (i + 1) _ _ (by omega) hJ'⟩
theorem comp_indT {ct elt : Expr} {x : Str} {scope : Scope} {cl : List (Str × Addr)} {S : List (Addr × Obj) → Prop} {P : Nat → Value → Prop} {Fin : List Value → List (Addr × Obj) → Prop} {n : Nat} (J : Nat → List Value → List (Addr × Obj) → Prop)
    (turn : ∀ i ys news v I oI C oC D m₂ h tk (E' : Value → Shared → Prop), i < n → J i ys news → P i v → NsObj oC m₂ → m₂ x = some v → Fr h₀ L h m → News h₀ L h ((I, oI) :: (C, oC) :: (D, lst ys) :: news) → Off3 I C D news → ((@Ne Nat I C) ∧ (@Ne Nat I D) ∧ (@Ne Nat C D)) →
      wpAny (model prog w) A (isTrue ct (compEnvC scope cl C env) (eval ct (compEnvC scope cl C env))) (fun ok s' => if ok = true then
        wpAny (model prog w) A (eval elt (compEnvC scope cl C env)) (CompEnd h₀ L m { s with heap := h, toks := tk } I oI C oC D (lst ys) S (fun y news' => J (i + 1) (ys ++ [y]) news')) E' s'
        else CompEnd h₀ L m { s with heap := h, toks := tk } I oI C oC D (lst ys) S (fun _ news' => J (i + 1) ys news') Value.none s') E' { s with heap := h, toks := tk })
    (fin : ∀ ys news, J n ys news → Fin ys news) : ∀ k i ys news, i + k = n → J i ys news → CompRestT prog w A h₀ L m env ct elt x scope cl s S P Fin k i ys news := by
  intro k
  induction k with
  | zero => intro i ys news hi hJ; obtain rfl : i = n := by omega
            exact CompRestT.zero (fin ys news hJ)
  | succ k ih =>
    intro i ys news hi hJ
    refine CompRestT.succ fun v I oI C oC D m₂ h tk E' hP hC hx F N off ne => ?_
    refine wpAny_mono (turn i ys news v I oI C oC D m₂ h tk E' (by omega) hJ hP hC hx F N off ne) (fun b s₂ q => ?_) fun _ _ e => e
    cases b with
    | true =>
      simp only [if_true] at q ⊢
      refine wpAny_mono q (fun y s₃ q => ?_) fun _ _ e => e
      obtain ⟨h', tk', nw, e, F', N', off', hS, hJ'⟩ := q
      exact ⟨h', tk', nw, e, F', N', off', hS, ih (i + 1) _ _ (by omega) hJ'⟩
    | false =>
      simp only [Bool.false_eq_true, if_false] at q ⊢
      obtain ⟨h', tk', nw, e, F', N', off', hS, hJ'⟩ := q
      exact ⟨h', tk', nw, e, F', N', off', hS, ih (i + 1) _ _ (by omega) hJ'⟩
theorem for_range {x : Str} {px : Pos} {body : List Stmt} {Q : Flow → Shared → Prop} {r : Addr} {b₀ : Int} {t₀ u₀ v₀ : Tok} {n : Nat} {news : List (Addr × Obj)} (J : Nat → (Str → Option Value) → List (Addr × Obj) → Prop)
    (hh : A.handled = none) (hr : IsRange s.heap r 0 b₀ 1 t₀ u₀ v₀) (hsmall : Builtin.Range.small 0 b₀ 1 = true) (hn : Builtin.Range.rangeSize 0 b₀ 1 = (n : Int)) (F : Fr h₀ env.locals s.heap m) (N : News h₀ env.locals s.heap news) (hj : J 0 m news)
    (turn : ∀ i t m₁ news₁ h tk own, i < n → news₁.map (·.1) = news.map (·.1) → OwnOff own (news.map (·.1)) → J i m₁ news₁ → Fr h₀ env.locals h m₁ → News h₀ env.locals h (own ++ news₁) →
      wpAny (model prog w) A (assign (.Name x px) env (.int (i : Int) t)) (fun _ s₂ => wpAny (model prog w) A (execs body env)
        (LoopStep3 h₀ env.locals own news₁ (J (i + 1)) { s with heap := h, toks := tk } (fun v s' => Q (.ret v) s') fun s' => Q .next s') E s₂) E { s with heap := h, toks := tk })
    (done : ∀ m₁ news₁ h tk, J n m₁ news₁ → Fr h₀ env.locals h m₁ → News h₀ env.locals h news₁ → Q .next { s with heap := h, toks := tk }) :
    wpAny (model prog w) A (pyIter (.ref r)) (fun it s₂ => UnrAt prog w A h₀ env (.Name x px) body Q E it s₂) E s := by
  refine wpAny_pyIter_range hr hsmall ?_
  have W : Walks prog w A s.heap.objs.size [s.heap.objs.size] [s.heap.objs.size] n (fun i v => i < n ∧ ∃ t, v = .int (0 + i * 1) t)
      (fun i h => IsRangeIter h s.heap.objs.size (0 + (i : Nat) * 1) ((n : Int) - (i : Nat)) 1) := (Walks.range hh _ 0 1 n).bound
  refine ⟨_, _, _, n, _, _, m, news, rfl, W, ?_, ?_, ?_, (by show IsRangeIter _ _ _ _ _; rw [hn]; simpa using Heap.get?_push_size _ rfl), F.push _, (fun p hp => ⟨Heap.get?_push_of_some _ (N p hp).1, (N p hp).2⟩), ?_, ?_⟩
  · intro hm
    exact absurd F.ns.lt ((List.mem_singleton.mp hm) ▸ Nat.lt_irrefl _)
  · intro b hb
    rw [List.mem_singleton.mp hb]
    exact next_is_new F
  · intro p hp hI
    exact absurd (Heap.lt_size (N p hp).1) ((List.mem_singleton.mp hI) ▸ Nat.lt_irrefl _)
  · intro i s' v Q' _ hq
    exact wpAny_of_eq (rfl : letOwnedTupleGo (.Name x px) (.ref _) v = pure ()) hq
  · have key : ∀ k i m₁ news₁, i + k = n → news₁.map (·.1) = news.map (·.1) → J i m₁ news₁ → Unr prog w A E h₀ env (.Name x px) body Q (fun i v => i < n ∧ ∃ t, v = .int (0 + i * 1) t) [s.heap.objs.size] { s with heap := s.heap.push { cls := .type "range_iterator", data := .fields #[rawInt 0, rawInt (Builtin.Range.rangeSize 0 b₀ 1), rawInt 1] } } k i m₁ news₁ := by
      intro k
      induction k with
      | zero =>
        intro i m₁ news₁ hi _ hJ
        obtain rfl : i = n := by omega
        exact Unr.zero fun h' tk F' N' => done m₁ news₁ h' tk hJ F' N'
      | succ k ih =>
        intro i m₁ news₁ hi ha hJ
        refine Unr.succ fun v h₁ tk₁ own hP hown F₁ N₁ => ?_
        obtain ⟨hlt, t, rfl⟩ := hP
        have e : (0 : Int) + (i : Int) * 1 = (i : Int) := by omega
        rw [e]
        have off : OwnOff own (news.map (·.1)) := by
          intro p hp b hb e
          obtain ⟨q, hq, rfl⟩ := List.mem_map.mp hb
          have h1 := List.mem_singleton.mp (hown p hp)
          exact absurd (Heap.lt_size (N q hq).1) (by rw [← e, h1]; exact Nat.lt_irrefl _)
        refine wpAny_mono (turn i t m₁ news₁ h₁ tk₁ own hlt ha off hJ F₁ N₁) (fun _ s₂ q => wpAny_mono q (fun f s₃ q => ?_) fun _ _ e => e) fun _ _ e => e
        cases f with
        | ret v => exact q
        | brk => exact q
        | cont =>
          obtain ⟨e0, h₃', tk₃, m₂, news₂, e1, F₃, N₃, ha₃, hJ₃⟩ := q
          exact ⟨e0, h₃', tk₃, m₂, news₂, e1, F₃, N₃, ha₃, ih (i + 1) _ _ (by omega) (ha₃.trans ha) hJ₃⟩
        | next =>
          obtain ⟨e0, h₃', tk₃, m₂, news₂, e1, F₃, N₃, ha₃, hJ₃⟩ := q
          exact ⟨e0, h₃', tk₃, m₂, news₂, e1, F₃, N₃, ha₃, ih (i + 1) _ _ (by omega) (ha₃.trans ha) hJ₃⟩
    exact key n 0 m news (by omega) rfl hj
open LSm in
theorem bools_snoc {vs : List Value} {bs : List Bool} (h : BoolsAre vs bs) (b : Bool) : BoolsAre (vs ++ [.bool b]) (bs ++ [b]) := by
  induction h with
  | nil => exact .cons b .nil
  | cons c _ ih => exact .cons c ih
noncomputable def isBool (b : Bool) : Value → Bool
  | .bool c => c == b
  | _ => false
theorem eqGives_bool (a b : Bool) : MeetsSeq.EqGives (.bool a) (.bool b) (a == b) := by
  intro prog w A E s Q h
  unfold eqBool
  show wpAny _ _ (if (Value.bool a == Value.bool b) = true then _ else _) Q E s
  by_cases hab : (Value.bool a == Value.bool b) = true
  · rw [if_pos hab]
    have e : a = b := by have := eq_of_beq hab; injection this
    subst e
    exact wpAny_bind (wpAny_rule (wpAny_pure (by simpa using h)))
  · rw [if_neg hab]
    exact wpAny_bind (eq_bool (wpAny_truthy_bool h))
theorem in_bools {l : Addr} {vs : List Value} {bs : List Bool} {b : Bool} {Q : Value → Shared → Prop} (hl : s.heap.IsList l vs.toArray) (hi : LSm.BoolsAre vs bs)
    (h : Q (.bool (bs.any (· == b))) s) : wpAny (model prog w) A (compareOp .In (.bool b) (.ref l)) Q E s := by
  have e : ∀ {vs : List Value} {bs : List Bool}, LSm.BoolsAre vs bs → vs.any (isBool b) = bs.any (· == b) := by
    intro vs bs hi
    induction hi with
    | nil => rfl
    | cons c _ ih => rw [List.any_cons, List.any_cons, ih]; rfl
  refine SeqInW.in_listW (isBool b) (fun y hy => ?_) hl (by rw [← Array.any_toList, show vs.toArray.toList = vs from rfl, e hi]; exact h)
  obtain ⟨i, hi2⟩ := List.getElem?_of_mem (show y ∈ vs by simpa using hy)
  obtain ⟨c, _, rfl⟩ := hi.get i y hi2
  exact eqGives_bool c b
theorem store_cell {cn : Str} {cs : Scope} {a : Addr} {ccd : Value} {cl : List (Str × Addr)} {x : Str} {v : Value} {Q : Unit → Shared → Prop} {pre post : List (Addr × Obj)} {c : Addr} {o : Obj} {v₀ : Option Value}
    (F : Fr h₀ L s.heap m) (N : News h₀ L s.heap (pre ++ (c, o) :: post)) (h1 : ∀ p ∈ pre, p.1 ≠ c) (h2 : ∀ p ∈ post, p.1 ≠ c) (hc : cl.lookup x = some c) (hd : o.data = .cell v₀)
    (h : ∀ h' o', Fr h₀ L h' m → News h₀ L h' (pre ++ (c, o') :: post) → o'.data = .cell (some v) → Q () { s with heap := h' })
    (hk : cs.kind = .function := by rfl) (hx : (envX cn cs L a ccd cl).kindOf x = some .cell := by rfl) : wpAny (model prog w) A (storeName (envX cn cs L a ccd cl) x v) Q E s := by
  have hm := N (c, o) (List.mem_append_right _ (.head _))
  refine wpAny_storeName_cell hk hx hc ⟨o, hm.1, hd⟩ fun h' hv hs => ?_
  obtain ⟨o', ho', hd'⟩ := hv
  exact h h' o' (F.change hs hm.2.1 hm.2.2) (N.setIn h1 h2 hs ho') hd'
theorem While_no {test : PySem.Expr} {body : List Stmt} {pos : Pos} {Q : Flow → Shared → Prop}
    (h : wpAny (model prog w) A (isTrue test env (PySem.eval test env)) (fun b s₂ => if b = true then False else Q .next s₂) E s)
    (hE : PassesOwn (model prog w) A env E) :
    wpAny (model prog w) A (exec (.While test body [] pos) env) Q E s := by
  refine wpAny_While (codeAny_whileLoop (fun _ s' => s' = s) ?_ 0 rfl)
  rintro n s' rfl
  refine wpAny_mono h (fun b s₂ h₂ => ?_) hE
  cases b with
  | false =>
    simp only [Bool.false_eq_true, if_false] at h₂ ⊢
    exact wpAny_execs_nil h₂
  | true =>
    simp only [if_true] at h₂
end
end
section
open PyProof.Rows.LCg
noncomputable def CcEnd (h₀ : Heap) (L : Addr) (m : Str → Option Value) (s₁ : Shared) (news : List (Addr × Obj)) (J : List Value → Prop) (ys : List Value) (y : Value) (s₂ : Shared) : Prop :=
  ∃ h' tk, s₂ = { s₁ with heap := h', toks := tk } ∧ Fr h₀ L h' m ∧ News h₀ L h' news ∧ J (ys ++ [y])
theorem ccEnd {h₀ h' : Heap} {L : Addr} {m : Str → Option Value} {s₁ : Shared} {news all : List (Addr × Obj)} {J : List Value → Prop} {ys : List Value} {y : Value} {tk : Nat} (F : Fr h₀ L h' m) (N : News h₀ L h' all) (hs : ∀ p ∈ news, p ∈ all) (hJ : J (ys ++ [y])) :
    CcEnd h₀ L m s₁ news J ys y { s₁ with heap := h', toks := tk } := ⟨h', tk, rfl, F, fun p hp => N p (hs p hp), hJ⟩
section
variable {prog : Program} {w : World} {A : Around} {E : Value → Shared → Prop} {s : Shared} {h₀ : Heap} {L : Addr} {m : Str → Option Value} {env : Env}
noncomputable def CcSrc (prog : Program) (w : World) (A : Around) (h₀ : Heap) (L : Addr) (m : Str → Option Value) (env : Env) (elt : PySem.Expr) (x y : Str) (scope : Scope) (cl : List (Str × Addr)) (Q : Flow → Shared → Prop) (xv : Value) (s₁ : Shared) : Prop :=
  ∃ r b t u v n news, ∃ J : Nat → List Value → Prop, xv = .ref r ∧ A.handled = none ∧ Fr h₀ L s₁.heap m ∧ News h₀ L s₁.heap news ∧ IsRange s₁.heap r 0 b 1 t u v ∧ Builtin.Range.small 0 b 1 = true ∧ Builtin.Range.rangeSize 0 b 1 = ((n : Nat) : Int) ∧ n ≤ sizeLine ∧ J 0 [] ∧
    (∀ i t ys I oI C oC K oK D h tk (E' : Value → Shared → Prop), i < n → J i ys → oK.data = .cell (some (.int (i : Int) t)) → Fr h₀ L h m → News h₀ L h ((I, oI) :: (C, oC) :: (K, oK) :: (D, lst ys) :: news) →
      (∀ p ∈ news, p.1 < I ∧ p.1 < C ∧ p.1 < K ∧ p.1 < D) → I < D ∧ D < C ∧ C < K →
      wpAny (model prog w) A (eval elt (compEnvC scope ((x, K) :: cl) C env)) (CcEnd h₀ L m { s₁ with heap := h, toks := tk } ((I, oI) :: (C, oC) :: (K, oK) :: (D, lst ys) :: news) (J (i + 1)) ys) E' { s₁ with heap := h, toks := tk }) ∧
    (∀ ys D h tk, J n ys → Fr h₀ L h (fun z => if z = y then some (.ref D) else m z) → News h₀ L h ((D, lst ys) :: news) → (∀ p ∈ news, p.1 < D) → Q .next { s₁ with heap := h, toks := tk })
theorem Assign_ListComp_cell {elt iter : PySem.Expr} {x y : Str} {px py : Pos} {scope : Scope} {cl : List (Str × Addr)} {pos spos : Pos} {Q : Flow → Shared → Prop} (hLe : env.locals = L)
    (hsw : swapsWith (.ListComp elt [⟨.Name x px, iter, [], 0⟩] scope pos) (some (.Name y py)) spos.line env = pure true)
    (hclos : closureFor scope env = pure cl) (hkind : scope.kind = .function)
    (hnames : ∀ z ∈ scope.names, z.2 = .local → scope.names.lookup z.1 = some .local)
    (hx : ∀ C K, (compEnvC scope ((x, K) :: cl) C env).kindOf x = some .cell)
    (hcf : ∀ k, cellsFrom k scope.names cl = (x, k) :: cl) (hpc : ∀ h, pushCells h scope.names = h.push { cls := .type "cell", data := .cell none })
    (hy : env.kindOf y = some .local) (hp : (env.scope.kind == .class || (env.scope.kind == .module && env.locals != env.globals)) = false)
    (h : wpAny (model prog w) A (eval iter env) (CcSrc prog w A h₀ L m env elt x y scope cl Q) E s)
    (hs : ∀ x, foldedSetIterable iter env x = pure x := by intro _; rfl) :
    wpAny (model prog w) A (exec (.Assign [.Name y py] (.ListComp elt [⟨.Name x px, iter, [], 0⟩] scope pos) spos) env) Q E s := by
  subst hLe
  rw [exec_Assign_Name_used _ _ _ _ hsw]
  refine wpAny_bind (wpAny_standAt (wpAny_bind ?_))
  show wpAny _ A (do let _ ← comprehension (.ListComp elt [⟨.Name x px, iter, [], 0⟩] scope pos) scope env _ (newList []) false (eval iter env) (some (assign (.Name y py) env))) _ _ s
  refine wpAny_bind (wpAny_mono (wpAny_comprehension_free (use := some (assign (.Name y py) env)) (Q := fun _ s' => Q .next s') rfl hs hclos hkind hnames
    (wpAny_mono h (fun xv s₁ h₁ => ?_) fun _ _ e => e)) (fun _ s' hq => wpAny_pure (wpAny_pure hq)) fun _ _ e => e)
  obtain ⟨r, b, t, u, v, n, news, J, rfl, hh, F, N, hr, hsm, hn, hsz, hJ0, turn, done⟩ := h₁
  refine wpAny_pyIter_range hr hsm ?_
  have W := range_walks (prog := prog) (w := w) (I := s₁.heap.objs.size) hh 0 n
  generalize hH1 : s₁.heap.push { cls := .type "range_iterator", data := .fields #[rawInt 0, rawInt (Builtin.Range.rangeSize 0 b 1), rawInt 1] } = H1
  have hI : s₁.heap.objs.size < H1.objs.size := by rw [← hH1, Heap.size_push]; exact Nat.lt_succ_self _
  have hst₀ : IsRangeIter H1 s₁.heap.objs.size (0 + (0 : Nat) * 1) ((n : Int) - (0 : Nat)) 1 := by
    rw [← hH1]
    show IsRangeIter _ _ _ _ _
    rw [hn]
    simpa using Heap.get?_push_size _ rfl
  have old₁ : ∀ b o, s₁.heap.get? b = some o → H1.get? b = some o := fun b o e => by rw [← hH1]; exact Heap.get?_push_of_some _ e
  refine wpAny_newObj_type ?_
  dsimp only
  generalize hH2 : H1.push { cls := .type "list", dict := none, data := .seq ([] : List Value).toArray } = H2
  have hD2 : H2.get? H1.objs.size = some (lst []) := by rw [← hH2]; exact Heap.get?_push_size _ rfl
  have old₂ : ∀ b o, H1.get? b = some o → H2.get? b = some o := fun b o e => by rw [← hH2]; exact Heap.get?_push_of_some _ e
  have hC : H2.objs.size = H1.objs.size + 1 := by rw [← hH2, Heap.size_push]
  simp only [newFunctionEnv, Option.isSome_some, if_true]
  refine wpAny_bind (wpAny_alloc ?_)
  dsimp only
  refine wpAny_bind (wpAny_layCells _ (fun name kind cells => by cases hkc : kind == NameKind.cell <;> simp [hkc]) _ _ _ _ ?_)
  dsimp only
  rw [hcf, hpc]
  generalize hH3 : H2.push { cls := .type "dict", data := .dict #[] } = H3
  have hC3 : H3.get? H2.objs.size = some { cls := .type "dict", data := .dict #[] } := by rw [← hH3]; exact Heap.get?_push_size _ rfl
  have old₃ : ∀ b o, H2.get? b = some o → H3.get? b = some o := fun b o e => by rw [← hH3]; exact Heap.get?_push_of_some _ e
  have hK : H3.objs.size = H2.objs.size + 1 := by rw [← hH3, Heap.size_push]
  generalize hH4 : H3.push { cls := .type "cell", data := .cell none } = H4
  have hK4 : H4.get? H3.objs.size = some { cls := .type "cell", data := .cell none } := by rw [← hH4]; exact Heap.get?_push_size _ rfl
  have old₄ : ∀ b o, H3.get? b = some o → H4.get? b = some o := fun b o e => by rw [← hH4]; exact Heap.get?_push_of_some _ e
  rw [List.forIn_nil]
  refine wpAny_bind (wpAny_pure (wpAny_pure ?_))
  show codeAny (model prog w) A (.compStart (.ListComp elt [⟨.Name x px, iter, [], 0⟩] scope pos) 0 (.ref s₁.heap.objs.size) (.ref H1.objs.size) (compEnvC scope ((x, H3.objs.size) :: cl) H2.objs.size env)) (compPost (model prog w) A E (some (assign (.Name y py) env)) (fun _ s' => Q .next s') (.ref H1.objs.size) H2.objs.size) _
  have old : ∀ b o, s₁.heap.get? b = some o → H4.get? b = some o := fun b o e => old₄ b o (old₃ b o (old₂ b o (old₁ b o e)))
  have fresh : ∀ a, s₁.heap.objs.size ≤ a → h₀.get? a = none := fun a ha => by
    cases e : h₀.get? a with
    | none => rfl
    | some o' => exact absurd (Heap.lt_size (F.keep a o' e)) (Nat.not_lt.mpr ha)
  have hLlt : @LT.lt Nat _ env.locals s₁.heap.objs.size := F.ns.lt
  have nlt : ∀ p ∈ news, @LT.lt Nat _ p.1 s₁.heap.objs.size := fun p hp => Heap.lt_size (N p hp).1
  generalize hIe : s₁.heap.objs.size = I at *
  generalize hDe : H1.objs.size = D at *
  generalize hCe : H2.objs.size = C at *
  generalize hKe : H3.objs.size = K at *
  have lID : I < D := hI
  have lDC : D < C := by omega
  have lCK : C < K := by omega
  have F4 : Fr h₀ env.locals H4 m := F.keeps old
  have N4 : News h₀ env.locals H4 ((C, { cls := .type "dict", data := .dict #[] }) :: (K, { cls := .type "cell", data := .cell none }) :: (D, lst []) :: news) := by
    intro p hp
    simp only [List.mem_cons] at hp
    rcases hp with rfl | rfl | rfl | hp
    · exact ⟨old₄ _ _ hC3, Nat.ne_of_gt (show @LT.lt Nat _ env.locals C by omega), fresh C (by omega)⟩
    · exact ⟨hK4, Nat.ne_of_gt (show @LT.lt Nat _ env.locals K by omega), fresh K (by omega)⟩
    · exact ⟨old₄ _ _ (old₃ _ _ hD2), Nat.ne_of_gt (show @LT.lt Nat _ env.locals D by omega), fresh D (by omega)⟩
    · exact ⟨old _ _ (N p hp).1, (N p hp).2⟩
  have hst4 : IsRangeIter H4 I (0 + (0 : Nat) * 1) ((n : Int) - (0 : Nat)) 1 := old₄ _ _ (old₃ _ _ (old₂ _ _ hst₀))
  have loop : ∀ s₃ : Shared, s₃ = { s₁ with heap := H4 } →
      codeAny (model prog w) A (.compLoop (.ListComp elt [⟨.Name x px, iter, [], 0⟩] scope pos) 0 (.ref I) (.ref D) (compEnvC scope ((x, K) :: cl) C env))
        (compPost (model prog w) A E (some (assign (.Name y py) env)) (fun _ s' => Q .next s') (.ref D) C) s₃ := by
    rintro s₃ rfl
    refine codeAny_compLoop_tests
      (fun k s' => ∃ h' tk i ys oK v, s' = { s₁ with heap := h', toks := tk } ∧ i ≤ n ∧ k = n + 1 - i ∧ ys.length = i ∧ IsRangeIter h' I (0 + (i : Nat) * 1) ((n : Int) - (i : Nat)) 1 ∧ Fr h₀ env.locals h' m ∧
        News h₀ env.locals h' ((C, { cls := .type "dict", data := .dict #[] }) :: (K, oK) :: (D, lst ys) :: news) ∧ oK.data = .cell v ∧ J i ys) ?_ (n + 1)
      ⟨H4, _, 0, [], _, _, rfl, Nat.zero_le _, rfl, rfl, hst4, F4, N4, rfl, hJ0⟩
    rintro k s' ⟨h', tk, i, ys, oK, v₀, rfl, hi, rfl, hyl, hst', F', N', hoK, hJ⟩
    by_cases hlt : i < n
    · refine W.item i _ _ _ hlt hst' fun v h₂ tk₂ hPv hst₂ hk₂ => ?_
      obtain ⟨t2, rfl⟩ := hPv
      rw [Int.zero_add]
      have hk2 : ∀ b o, b ≠ I → h'.get? b = some o → h₂.get? b = some o := fun b o hb e => hk₂ b o (by simpa using hb) e
      have F₂ : Fr h₀ env.locals h₂ m := fr_but F' hk₂ (Nat.ne_of_lt hLlt) (fresh I (Nat.le_refl _))
      have N₂ := news_but N' hk₂ (fun p hp => by
        simp only [List.mem_cons] at hp
        rcases hp with rfl | rfl | rfl | hp
        · exact Nat.ne_of_gt (show I < C by omega)
        · exact Nat.ne_of_gt (show I < K by omega)
        · exact Nat.ne_of_gt lID
        · exact Nat.ne_of_lt (nlt p hp))
      have zK := N₂ (K, oK) (by simp)
      refine wpAny_assign_Name (wpAny_storeName_cell (c := K) (v₀ := v₀) ?_ (hx C K) ?_ ⟨oK, zK.1, hoK⟩ fun h₃ hv hs₃ => ?_)
      · show (relabel scope env).kind = .function
        simp [relabel, hkind]
      · simp [compEnvC]
      obtain ⟨oK', hoK', hdK'⟩ := hv
      refine wpAny_tests_nil ?_
      simp only [if_true]
      have F₃ : Fr h₀ env.locals h₃ m := F₂.change hs₃ (Nat.ne_of_gt (show @LT.lt Nat _ env.locals K by omega)) (fresh K (by omega))
      have hst₃ : IsRangeIter h₃ I (0 + ((i + 1 : Nat) : Nat) * 1) ((n : Int) - ((i + 1 : Nat) : Nat)) 1 := hs₃.extBut _ _ (Nat.ne_of_lt (show I < K by omega)) hst₂
      obtain ⟨oI, heI⟩ : ∃ oI, h₃.get? I = some oI := ⟨_, hst₃⟩
      have N₃ : News h₀ env.locals h₃ ((I, oI) :: (C, { cls := .type "dict", data := .dict #[] }) :: (K, oK') :: (D, lst ys) :: news) := by
        intro p hp
        simp only [List.mem_cons] at hp
        rcases hp with rfl | rfl | rfl | rfl | hp
        · exact ⟨heI, Nat.ne_of_gt hLlt, fresh I (Nat.le_refl _)⟩
        · have z := N₂ (C, { cls := .type "dict", data := .dict #[] }) (by simp)
          exact ⟨hs₃.extBut _ _ (Nat.ne_of_lt lCK) z.1, z.2⟩
        · exact ⟨hoK', zK.2⟩
        · have z := N₂ (D, lst ys) (by simp)
          exact ⟨hs₃.extBut _ _ (Nat.ne_of_lt (show D < K by omega)) z.1, z.2⟩
        · have z := N₂ p (by simp [hp])
          exact ⟨hs₃.extBut _ _ (Nat.ne_of_lt (show @LT.lt Nat _ p.1 K from Nat.lt_trans (nlt p hp) (by omega))) z.1, z.2⟩
      refine wpAny_mono (turn i t2 ys I _ C _ K oK' D h₃ _ _ hlt hJ hdK' F₃ N₃ (fun p hp => ?_) ⟨lID, lDC, lCK⟩) (fun z s₄ h₄ => ?_) fun _ _ e => e
      · have q := nlt p hp
        exact ⟨q, Nat.lt_trans q (by omega), Nat.lt_trans q (by omega), Nat.lt_trans q lID⟩
      obtain ⟨h₄, tk₄, rfl, F₄, N₄, hJ₄⟩ := h₄
      have zD := (N₄ (D, lst ys) (by simp)).1
      refine append_at (hsz := by show ys.toArray.size ≤ sizeLine; rw [List.size_toArray, hyl]; exact Nat.le_trans hi hsz) zD fun h₅ hs₅ hD₅ => ?_
      refine ⟨n + 1 - (i + 1), by omega, h₅, tk₄, i + 1, ys ++ [z], oK', _, rfl, hlt, rfl, by rw [List.length_append, List.length_singleton, hyl], (hs₅.extBut _ _ (Nat.ne_of_lt lID) (N₄ (I, oI) List.mem_cons_self).1).trans (heI.symm.trans hst₃), F₄.change hs₅ (Nat.ne_of_gt (show @LT.lt Nat _ env.locals D by omega)) (fresh D (by omega)), ?_, hdK', hJ₄⟩
      intro p hp
      simp only [List.mem_cons] at hp
      rcases hp with rfl | rfl | rfl | hp
      · have z := N₄ (C, { cls := .type "dict", data := .dict #[] }) (by simp)
        exact ⟨hs₅.extBut _ _ (Nat.ne_of_gt lDC) z.1, z.2⟩
      · have z := N₄ (K, oK') (by simp)
        exact ⟨hs₅.extBut _ _ (Nat.ne_of_gt (show D < K by omega)) z.1, z.2⟩
      · exact ⟨hD₅.trans (congrArg some (lst_snoc ys z)), Nat.ne_of_gt (show @LT.lt Nat _ env.locals D by omega), fresh D (by omega)⟩
      · have z := N₄ p (by simp [hp])
        exact ⟨hs₅.extBut _ _ (Nat.ne_of_lt (show @LT.lt Nat _ p.1 D from Nat.lt_trans (nlt p hp) lID)) z.1, z.2⟩
    · obtain rfl : i = n := Nat.le_antisymm hi (Nat.not_lt.mp hlt)
      refine W.done _ _ _ hst' fun h₂ tk₂ hk₂ => ?_
      have F₂ : Fr h₀ env.locals h₂ m := fr_but F' hk₂ (Nat.ne_of_lt hLlt) (fresh I (Nat.le_refl _))
      have N₂ := news_but N' hk₂ (fun p hp => by
        simp only [List.mem_cons] at hp
        rcases hp with rfl | rfl | rfl | hp
        · exact Nat.ne_of_gt (show I < C by omega)
        · exact Nat.ne_of_gt (show I < K by omega)
        · exact Nat.ne_of_gt lID
        · exact Nat.ne_of_lt (nlt p hp))
      show wpAny _ A (assign (.Name y py) env (.ref D)) _ _ _
      refine wpAny_assign_Name (wpAny_storeName_local hy F₂.ns (fun h₃ hn₃ hs₃ => ?_) hp)
      have F₃ : Fr h₀ env.locals h₃ (fun z => if z = y then some (.ref D) else m z) := F₂.set hn₃ hs₃
      have N₃ := N₂.set hs₃
      have zC := N₃ (C, { cls := .type "dict", data := .dict #[] }) (by simp)
      refine ⟨fun _ => none, ⟨_, #[], 0, zC.1, rfl, fun _ h => by simp at h, fun _ => rfl⟩, fun h'' hs'' => ?_⟩
      refine done ys D h'' _ hJ (F₃.change hs'' zC.2.1 zC.2.2) (fun p hp => ?_) fun p hp => Nat.lt_trans (nlt p hp) lID
      simp only [List.mem_cons] at hp
      rcases hp with rfl | hp
      · have z := N₃ (D, lst ys) (by simp)
        exact ⟨hs''.extBut _ _ (Nat.ne_of_lt lDC) z.1, z.2⟩
      · have z := N₃ p (by simp [hp])
        exact ⟨hs''.extBut _ _ (Nat.ne_of_lt (show @LT.lt Nat _ p.1 C from Nat.lt_trans (nlt p hp) (by omega))) z.1, z.2⟩
  exact codeAny_compStart_list (loop _ rfl) (W.self 0 _ _ _ hst4 (loop _ rfl))
end
end
section
theorem filled_c (w : World) {W O : Addr} {ws os : List Value} {wn on : List Int} {a0 b0 : Nat} {rest : List (Addr × Obj)} (hw : IntsAre ws wn) (ho : IntsAre os on) (hlen : wn.length ≤ 9) (hlo : on.length ≤ wn.length) (hwb : ∀ x ∈ wn, 0 ≤ x ∧ x ≤ 5) (hob : ∀ x ∈ on, 0 ≤ x ∧ x < wn.length) :
    Ctr w 4 201 [.ref W, .ref O] ((W, listOf ws.toArray a0) :: (O, listOf os.toArray b0) :: rest) (fun r news' => ∃ D us' k, r = .ref D ∧ IntsAre us' (filling wn on).2 ∧ news' = (D, listOf us'.toArray k) :: (W, listOf ws.toArray a0) :: (O, listOf os.toArray b0) :: rest ∧ W < D ∧ O < D ∧ ∀ p ∈ rest, p.1 < D) := by
  k_with_none
  w_top off
  have hkf := kfill w
  (revert hkf; k_fill; intro hkf)
  clear hkf
  refine Ctr.mk ?_
  k_with "call ref" => (refine unhold ?_)
  k_with "pyIter ref" => (refine unhold ?_)
  have hwl := hw.length
  have hMark := kstMark
  intro p_ loose mean mg mb dp un gd cn cs a ccd cl outer A₀ base h₀ L m s Q E B F X N T hk hdp hun hret
  refine wpAny_call ?_
  k_dflt cell_enter
  try k_fold
  k_steps
  refine Hold.intro ?_
  (rename Fr _ _ _ _ => F9); (rename News _ _ _ _ => N9); rename IntsAre (List.flatten _) _ => i1
  rename_i l' _ l1 D' _ n1 s1 e1 e2 e3 l2 _
  refine' kst_listL (σ := Str × Tok × List Value × List Int) (fun c => (D', listOf c.2.2.1.toArray 0) :: (l', _) :: (W, listOf ws.toArray a0) :: (O, listOf os.toArray b0) :: rest) (fun c => [(Str.ofString "street", .str c.1 c.2.1)])
    (fun c => IntsAre c.2.2.1 c.2.2.2) [Str.ofString "place"]
    (fun pre c => (c.1.cps.toList, c.2.2.2) = filling wn pre ∧ c.2.2.2.length = wn.length ∧ c.1.cps.size = wn.length + 6 ∧ c.1.cps.toList.count 120 ≤ pre.length)
    (_, _, _, _) (by rfl) (by intro c; k_memK) ho F9 N9 i1 (by kst_all) ?_ ?_ ?_
  · dsimp only
    have q : ((wn.length : Int)).toNat = wn.length := by omega
    have hc : (Txt.mul (Str.ofString ".") ((wn.length : Int) + 6)).cps.size = wn.length + 6 := by rw [← Array.length_toList, mul_dot, List.length_replicate]
    rw [q, flat_rep, mul_dot]
    refine ⟨rfl, List.length_replicate, hc, ?_⟩
    rw [List.count_replicate]
    simp
  · rintro ⟨st, tst, us1, ns1⟩ pre post n t u h tk2 own heq hmem hoff hf ⟨hp1, hp2, hp3, hp4⟩ F2 N2
    clear F9 N9
    (try dsimp only at hp1 hp2 hp3 hp4 F2 N2 hoff hf); (try dsimp only [kstB] at F2)
    (try dsimp only [List.nil_append, List.cons_append] at N2); (try simp only [List.append_nil] at N2); (try simp only [List.map_cons, List.map_nil] at hoff)
    try k_fold
    have hb := hob n hmem
    have hq : n.toNat < wn.length := by omega
    have hwn : wn.getD n.toNat 0 = wn[n.toNat] := by rw [List.getD_eq_getElem?_getD, List.getElem?_eq_getElem hq, Option.getD_some]
    have hwb2 := hwb wn[n.toNat] (List.getElem_mem hq)
    rw [← hwn] at hwb2
    have hpl : pre.length < on.length := by rw [heq]; simp
    have hsk : skipTo st.cps.toList (wn.getD n.toNat 0).toNat < st.cps.size := by
      have := skipTo_lt (l := st.cps.toList) (p := (wn.getD n.toNat 0).toNat) (by rw [Array.length_toList]; omega)
      rwa [Array.length_toList] at this
    have hus1 := hf.length
    have hstl : st.length ≤ 15 := by have : st.length = st.cps.size := rfl; omega
    try k_fold
    k_steps
    refine Hold.intro ?_
    refine' Ctr.use (skip_c w hwb2.1 (by omega) hsk) ?k1 ?k2 ?k3 ?k4 ?k5 ?k6 ?k7 ?k8 ?_
    (case k1 => k_asm); (case k2 => k_asm); (case k3 => k_asm); (case k5 => k_asm); (case k6 => first | exact rfl | assumption); (case k7 => ktr_room); (case k8 => ktr_units)
    (case k4 => k_asm)
    rintro r9 n9 h9 t9 F3 N3 ⟨⟨t3, rfl⟩, rfl⟩
    try k_fold
    k_steps
    rename IntsAre (List.set _ _ _) _ => hI
    (rename Fr _ _ _ _ => F4); (rename News _ _ _ _ => N4)
    refine Hold.intro (kst_end ⟨_, _, _, _⟩ F4 N4 (by kst_inAny) (by kst_anyIn) (by rfl) hI (by kst_all) (by kst_same) ?_)
    dsimp only
    have hcut := cut_dot hsk
    refine ⟨?_, by rw [List.length_set]; exact hp2, ?_, ?_⟩
    · unfold filling at hp1 ⊢
      rw [List.foldl_append, ← hp1, hcut]
      rfl
    · rw [← Array.length_toList, hcut]
      simp only [List.length_append, List.length_cons, List.length_take, List.length_drop, Array.length_toList]
      omega
    · rw [hcut]
      have := count_cut (l := st.cps.toList) (k := skipTo st.cps.toList (wn.getD n.toNat 0).toNat) (by rw [Array.length_toList]; exact hsk)
      simp only [List.length_append, List.length_cons, List.length_nil]
      omega
  · rintro ⟨st, tst, us1, ns1⟩ u h tk2 hf ⟨hp1, hp2, hp3, hp4⟩ F2 N2
    clear F9 N9
    (try dsimp only at hp1 hp2 hp3 hp4 F2 N2 hf); (try dsimp only [kstB] at F2)
    try k_fold
    k_steps
    (rename Fr _ _ _ _ => F4); (rename News _ _ _ _ => N4)
    have hfin : ns1 = (filling wn on).2 := by rw [← hp1]
    rw [hfin] at hf
    refine hret _ _ _ _ F4 (kst_newsOf N4 ?_) ⟨D', us1, 0, rfl, hf, rfl, l2.2.1, l2.2.2.1, kst_ltOf l2.2.2.2⟩
    intro p hp
    rcases List.mem_cons.mp hp with rfl | hp
    · exact List.mem_cons_self
    · exact List.mem_cons_of_mem _ (List.mem_cons_of_mem _ hp)
end
section
noncomputable def idx (on : List Int) (car : Int) : Int := (on.idxOf car : Nat)
noncomputable def pushIf (wn on : List Int) (p : Int) (h : List Int) (car : Int) : List Int := if wn.getD car.toNat 0 = p then sd (idx on car) (h ++ [idx on car]) h.length else h
noncomputable def sweepIn (wn on : List Int) (h : List Int) (p : Int) : List Int := (rangeKs 0 wn.length).foldl (pushIf wn on p) h
noncomputable def sweepStep (wn on : List Int) (st : List Int × List Int) (p : Int) : List Int × List Int :=
  if 0 < (sweepIn wn on st.1 p).length then ((hpop (sweepIn wn on st.1 p)).2, st.2.set (on.getD (hpop (sweepIn wn on st.1 p)).1.toNat 0).toNat p) else (sweepIn wn on st.1 p, st.2)
noncomputable def sweeping (wn on ps : List Int) : List Int × List Int := ps.foldl (sweepStep wn on) ([], List.replicate wn.length 0)
abbrev tupOf (vs : List Value) : Obj := { cls := .type "tuple", data := .seq vs.toArray }
theorem swept_c (w : World) {W O : Addr} {ws os : List Value} {wn on : List Int} {a0 b0 : Nat} {rest : List (Addr × Obj)} (hw : IntsAre ws wn) (ho : IntsAre os on) (hlen : wn.length ≤ 9) (hlo : on.length = wn.length) (hob : ∀ x ∈ on, 0 ≤ x ∧ x < wn.length) (hin : ∀ x : Int, 0 ≤ x → x < wn.length → x ∈ on) :
    Ctr w 10 208 [.ref W, .ref O] ((W, listOf ws.toArray a0) :: (O, listOf os.toArray b0) :: rest) (fun r news' => ∃ T D Wt us vs k, r = .ref T ∧ IntsAre us (sweeping wn on (rangeKs 0 (wn.length + 6))).1 ∧ IntsAre vs (sweeping wn on (rangeKs 0 (wn.length + 6))).2 ∧
      news' = (T, tupOf [.ref D, .ref Wt]) :: (D, listOf vs.toArray 0) :: (Wt, listOf us.toArray k) :: (W, listOf ws.toArray a0) :: (O, listOf os.toArray b0) :: rest ∧ D < T ∧ Wt < D ∧ W < Wt ∧ O < Wt ∧ ∀ p ∈ rest, p.1 < Wt) := by
  k_with_none
  w_top off
  have hkf := kfill w
  (revert hkf; k_fill; intro hkf)
  clear hkf
  refine Ctr.mk ?_
  k_with "call ref" => (refine unhold ?_)
  k_with "pyIter ref" => (refine unhold ?_)
  k_with "call builtin:list.index" => (refine unhold ?_)
  have hwl := hw.length
  have hMark := kstMark
  intro p_ loose mean mg mb dp un gd cn cs a ccd cl outer A₀ base h₀ L m s Q E B F X N T hk hdp hun hret
  refine wpAny_call ?_
  k_dflt cell_enter
  try k_fold
  k_steps
  refine Hold.intro ?_
  (rename Fr _ _ _ _ => F9); (rename News _ _ _ _ => N9); rename IntsAre (List.flatten _) _ => i1; rename IsRange _ _ _ _ _ _ _ _ => rgX
  rename_i Wt _ l1 _ jk l' _ l2 D' _ n1 s1 e1 e2 e3 l3 _ _ _ _ _ _ _ _ _
  refine' kst_range (σ := List Value × List Int × Nat × List Value × List Int) (fun c => (D', listOf c.2.2.2.1.toArray 0) :: (l', _) :: (Wt, listOf c.1.toArray c.2.2.1) :: (W, listOf ws.toArray a0) :: (O, listOf os.toArray b0) :: rest) (fun c => [])
    (fun c => IntsAre c.1 c.2.1 ∧ IntsAre c.2.2.2.1 c.2.2.2.2) [Str.ofString "car"]
    (fun pre c => (c.2.1, c.2.2.2.2) = sweeping wn on pre ∧ c.2.2.2.2.length = wn.length ∧ (∀ x ∈ c.2.1, 0 ≤ x ∧ x < wn.length) ∧ c.2.1.length ≤ 9 * pre.length)
    ([], [], 0, _, _) (n := wn.length + 6) (by rfl) rgX (by first | exact small_one (by omega) (by omega) (by omega) (by omega) | exact small_one (by l_bnd) (by l_bnd) (by l_bnd) (by l_bnd) | decide) (by first | exact rangeSize_nat _ _ | rfl) F9 N9 ⟨.nil, i1⟩ (by kst_all) ?_ ?_ ?_
  · dsimp only
    have q : ((wn.length : Int)).toNat = wn.length := by omega
    rw [q, flat_rep]
    exact ⟨rfl, List.length_replicate, fun _ h => absurd h List.not_mem_nil, Nat.zero_le _⟩
  · rintro ⟨us1, hs1, k1, vs1, ps1⟩ pre p t u h tk2 own heq hlt hoff ⟨hf1, hf2⟩ ⟨hp1, hp2, hp3, hp4⟩ F2 N2
    clear F9 N9
    (try dsimp only at hp1 hp2 hp3 hp4 F2 N2 hoff hf1 hf2); (try dsimp only [kstB] at F2)
    (try dsimp only [List.nil_append, List.cons_append] at N2); (try simp only [List.append_nil] at N2); (try simp only [List.map_cons, List.map_nil] at hoff)
    try k_fold
    k_steps
    refine Hold.intro ?_
    (rename Fr _ _ _ _ => F8); (rename News _ _ _ _ => N8); rename IsRange _ _ _ _ _ _ _ _ => rgY
    refine' kst_range (σ := List Value × List Int × Nat) (fun c => (D', listOf vs1.toArray 0) :: (l', _) :: (Wt, listOf c.1.toArray c.2.2) :: (W, listOf ws.toArray a0) :: (O, listOf os.toArray b0) :: (rest ++ own)) (fun c => [])
      (fun c => IntsAre c.1 c.2.1) []
      (fun pre2 c => c.2.1 = pre2.foldl (pushIf wn on p) hs1 ∧ (∀ x ∈ c.2.1, 0 ≤ x ∧ x < wn.length) ∧ c.2.1.length ≤ 9 * pre.length + pre2.length)
      (us1, hs1, k1) (n := wn.length) (by rfl) rgY (by first | exact small_one (by omega) (by omega) (by omega) (by omega) | exact small_one (by l_bnd) (by l_bnd) (by l_bnd) (by l_bnd) | decide) (by first | exact rangeSize_nat _ _ | rfl) F8 N8 hf1 (by kst_all) ?_ ?_ ?_
    · exact ⟨rfl, hp3, hp4⟩
    · rintro ⟨us2, hs2, k2⟩ pre2 car t2 u2 h2 tk3 own2 heq2 hlt2 hoff2 hf3 ⟨hq1, hq2, hq3⟩ F3 N3
      clear F8 N8
      (try dsimp only at hq1 hq2 hq3 F3 N3 hoff2 hf3); (try dsimp only [kstB] at F3)
      (try simp only [List.nil_append, List.cons_append, List.append_nil, List.append_assoc] at N3); (try simp only [List.map_cons, List.map_nil] at hoff2)
      try k_fold
      have hcr : 0 ≤ car ∧ car < wn.length := by omega
      have hcin := hin car hcr.1 hcr.2
      have hix : on.idxOf car < on.length := List.idxOf_lt_length_iff.mpr hcin
      have hne : ∀ q ∈ (D', listOf vs1.toArray 0) :: (l', listOf #[Value.int 0 jk] 0) :: (W, listOf ws.toArray a0) :: (O, listOf os.toArray b0) :: (rest ++ (own ++ own2)), q.1 ≠ Wt := by
        intro q hq
        simp only [List.mem_cons, List.mem_append] at hq
        rcases hq with rfl | rfl | rfl | rfl | hq | hq | hq
        · exact Nat.ne_of_gt l3.2.1
        · exact Nat.ne_of_gt l2.1
        · exact Nat.ne_of_lt l1.1
        · exact Nat.ne_of_lt l1.2.1
        · exact Nat.ne_of_lt (kst_ltOf l1.2.2 q hq)
        · exact hoff q hq _ (by simp)
        · exact hoff2 q hq _ (by simp)
      have hul2 := hf3.length
      try k_fold
      k_steps
      · refine Hold.intro ?_
        (rename News _ _ _ _ => N4)
        refine my_index N4 (by k_memK) ho (by omega) hcin ?_
        try k_fold
        k_steps
        refine Hold.intro ?_
        refine' Ctr.use (heappush_c w hf3 (by omega) hne) ?k1 ?k2 ?k3 ?k4 ?k5 ?k6 ?k7 ?k8 ?_
        (case k1 => k_asm); (case k2 => k_asm); (case k3 => k_asm); (case k5 => k_asm); (case k6 => first | exact rfl | assumption); (case k7 => ktr_room); (case k8 => ktr_units)
        (case k4 => exact kst_newsOf N4 (by kst_inAny))
        rintro r9 n9 h9 t9 F5 N5 ⟨rfl, us', n', hi5, rfl⟩
        try k_fold
        k_steps
        (rename Fr _ _ _ _ => F6); (rename News _ _ _ _ => N6)
        rename List.getD _ _ _ = p => hwp
        refine Hold.intro (kst_end ⟨_, _, _⟩ F6 N6 (by kst_inAny) (by kst_anyIn) (by rfl) hi5 (by kst_all) (by kst_same) ?_)
        dsimp only
        have hpm := push_perm (idx on car) hs2
        refine ⟨?_, ?_, ?_⟩
        · rw [List.foldl_append, ← hq1]
          show _ = pushIf wn on p hs2 car
          unfold pushIf
          rw [if_pos hwp]
          rfl
        · intro x hx
          rcases List.mem_cons.mp (hpm.mem_iff.mp hx) with rfl | hx
          · unfold idx; omega
          · exact hq2 x hx
        · have := hpm.length_eq
          unfold idx at this
          rw [this]
          simp only [List.length_cons, List.length_append, List.length_nil]
          omega
      · (rename Fr _ _ _ _ => F6); (rename News _ _ _ _ => N6)
        rename List.getD _ _ _ ≠ p => hwp
        refine Hold.intro (kst_end ⟨_, _, _⟩ F6 N6 (by kst_inAny) (by kst_anyIn) (by rfl) hf3 (by kst_all) (by kst_same) ?_)
        dsimp only
        refine ⟨?_, hq2, ?_⟩
        · rw [List.foldl_append, ← hq1]
          show _ = pushIf wn on p hs2 car
          unfold pushIf
          rw [if_neg hwp]
        · simp only [List.length_append, List.length_cons, List.length_nil]
          omega
    · rintro ⟨us2, hs2, k2⟩ u2 h2 tk3 hf3 ⟨hq1, hq2, hq3⟩ F3 N3
      clear F8 N8
      (try dsimp only at hq1 hq2 hq3 F3 N3 hf3); (try dsimp only [kstB] at F3)
      (try simp only [List.nil_append, List.cons_append, List.append_nil, List.append_assoc] at N3)
      try k_fold
      have hul2 := hf3.length
      have hne : ∀ q ∈ (D', listOf vs1.toArray 0) :: (l', listOf #[Value.int 0 jk] 0) :: (W, listOf ws.toArray a0) :: (O, listOf os.toArray b0) :: (rest ++ own), q.1 ≠ Wt := by
        intro q hq
        simp only [List.mem_cons, List.mem_append] at hq
        rcases hq with rfl | rfl | rfl | rfl | hq | hq
        · exact Nat.ne_of_gt l3.2.1
        · exact Nat.ne_of_gt l2.1
        · exact Nat.ne_of_lt l1.1
        · exact Nat.ne_of_lt l1.2.1
        · exact Nat.ne_of_lt (kst_ltOf l1.2.2 q hq)
        · exact hoff q hq _ (by simp)
      rw [rangeKs_length] at hq3
      have hsw : sweepStep wn on (sweeping wn on pre) p = if 0 < hs2.length then ((hpop hs2).2, ps1.set (on.getD (hpop hs2).1.toNat 0).toNat p) else (hs2, ps1) := by
        unfold sweepStep sweepIn
        rw [← hp1]
        dsimp only
        rw [← hq1]
      have hsn : sweeping wn on (pre ++ [p]) = sweepStep wn on (sweeping wn on pre) p := by unfold sweeping; rw [List.foldl_append]; rfl
      by_cases hpos : 0 < hs2.length
      · have hpm := hpop_perm hs2 hpos
        have hv := hq2 _ (hpm.mem_iff.mp (List.mem_cons_self))
        have hvn : (hpop hs2).1.toNat < on.length := by omega
        have hov := hob _ (List.getElem_mem hvn)
        rw [← getD_lt hvn 0] at hov
        try k_fold
        k_steps
        refine Hold.intro ?_
        (rename News _ _ _ _ => N4)
        refine' Ctr.use (heappop_c w hf3 hpos (by omega) hne) ?k1 ?k2 ?k3 ?k4 ?k5 ?k6 ?k7 ?k8 ?_
        (case k1 => k_asm); (case k2 => k_asm); (case k3 => k_asm); (case k5 => k_asm); (case k6 => first | exact rfl | assumption); (case k7 => ktr_room); (case k8 => ktr_units)
        (case k4 => exact kst_newsOf N4 (by kst_inAny))
        rintro r9 n9 h9 t9 F5 N5 ⟨t5, us', n', rfl, hi5, rfl⟩
        try k_fold
        k_steps
        (rename Fr _ _ _ _ => F6); (rename News _ _ _ _ => N6)
        rename IntsAre (List.set _ _ _) _ => hI2
        refine Hold.intro (kst_end ⟨_, _, _, _, _⟩ F6 N6 (by kst_inAny) (by kst_anyIn) (by rfl) ⟨hi5, hI2⟩ (by kst_all) (by kst_same) ?_)
        dsimp only
        rw [hsn, hsw, if_pos hpos]
        have hpl := hpm.length_eq
        rw [List.length_cons] at hpl
        refine ⟨rfl, by rw [List.length_set]; exact hp2, fun x hx => hq2 x (hpm.mem_iff.mp (List.mem_cons_of_mem _ hx)), ?_⟩
        change (hpop hs2).snd.length ≤ 9 * (pre ++ [p]).length
        simp only [List.length_append, List.length_cons, List.length_nil]
        omega
      · k_steps
        (rename Fr _ _ _ _ => F6); (rename News _ _ _ _ => N6)
        refine Hold.intro (kst_end ⟨_, _, _, _, _⟩ F6 N6 (by kst_inAny) (by kst_anyIn) (by rfl) ⟨hf3, hf2⟩ (by kst_all) (by kst_same) ?_)
        dsimp only
        rw [hsn, hsw, if_neg hpos]
        refine ⟨rfl, hp2, hq2, ?_⟩
        simp only [List.length_append, List.length_cons, List.length_nil]
        omega
  · rintro ⟨us1, hs1, k1, vs1, ps1⟩ u h tk2 ⟨hf1, hf2⟩ ⟨hp1, hp2, hp3, hp4⟩ F2 N2
    clear F9 N9
    (try dsimp only at hp1 hp2 hp3 hp4 F2 N2 hf1 hf2); (try dsimp only [kstB] at F2)
    (try dsimp only [List.nil_append, List.cons_append] at N2); (try simp only [List.append_nil] at N2)
    try k_fold
    k_steps
    (rename Fr _ _ _ _ => F6); (rename News _ _ _ _ => N6)
    rename_i T' _ _ _ l4 _ _
    rw [show hs1 = (sweeping wn on (rangeKs 0 (wn.length + 6))).1 by rw [← hp1]] at hf1
    rw [show ps1 = (sweeping wn on (rangeKs 0 (wn.length + 6))).2 by rw [← hp1]] at hf2
    refine hret _ _ _ _ F6 (kst_newsOf N6 ?_) ⟨T', D', Wt, us1, vs1, k1, rfl, hf1, hf2, rfl, l4.1, l3.2.1, l1.1, l1.2.1, kst_ltOf l1.2.2⟩
    intro p hp
    rcases List.mem_cons.mp hp with rfl | hp
    · exact List.mem_cons_self
    · rcases List.mem_cons.mp hp with rfl | hp
      · exact List.mem_cons_of_mem _ List.mem_cons_self
      · exact List.mem_cons_of_mem _ (List.mem_cons_of_mem _ (List.mem_cons_of_mem _ hp))
end
section
noncomputable def cntIn (wn : List Int) (a p : Nat) : Nat := wn.countP fun x => decide ((a : Int) ≤ x) && decide (x ≤ (p : Int))
noncomputable def takenP (wn : List Int) (p : Nat) : Bool := (List.range (p + 1)).any fun a => decide ((p : Int) - (a : Int) < (cntIn wn a p : Int))
noncomputable def takens (wn : List Int) (n : Nat) : List Int := ((List.range n).filter (takenP wn)).map fun (p : Nat) => (p : Int)
theorem fr_put {h₀ h : Heap} {L : Addr} {m : Str → Option Value} {x : Str} {v : Value} (F : Fr h₀ L h m) (e : m x = some v) : Fr h₀ L h (fun z => if z = x then some v else m z) := by
  have q : (fun z => if z = x then some v else m z) = m := by
    funext z
    by_cases hz : z = x
    · rw [if_pos hz, hz, e]
    · rw [if_neg hz]
  rw [q]
  exact F
theorem news_swap {h₀ h : Heap} {L : Addr} {a b : List (Addr × Obj)} (N : News h₀ L h (a ++ b)) : News h₀ L h (b ++ a) := fun p hp => N p (List.mem_append.mpr (List.mem_append.mp hp).symm)
open PyProof.Rows.LCg PyProof.Rows.LCt
theorem taken_c (w : World) {W : Addr} {ws : List Value} {wn : List Int} {a0 : Nat} {rest : List (Addr × Obj)} (hw : IntsAre ws wn) (hlen : wn.length ≤ 9) (hwb : ∀ x ∈ wn, 0 ≤ x ∧ x ≤ 5) :
    Ctr w 10 213 [.ref W] ((W, listOf ws.toArray a0) :: rest) (fun r news' => ∃ D us k, r = .ref D ∧ IntsAre us (takens wn (wn.length + 6)) ∧ news' = (D, listOf us.toArray k) :: (W, listOf ws.toArray a0) :: rest ∧ W < D ∧ ∀ p ∈ rest, p.1 < D) := by
  k_with_none
  w_top off
  have hkf := kfill w
  (revert hkf; k_fill; intro hkf)
  clear hkf
  refine Ctr.mk ?_
  k_with "call ref" => (refine unhold ?_)
  k_with "pyIter ref" => (refine unhold ?_)
  k_with "exec For Name Call cons nil" => (refine unhold ?_)
  k_with "exec Assign cons ListComp" => (refine unhold ?_)
  k_with "eval ListComp" => (refine unhold ?_)
  have hwl := hw.length
  have hMark := kstMark
  intro p_ loose mean mg mb dp un gd cn cs a ccd cl outer A₀ base h₀ L m s Q E B F X N T hk hdp hun hret
  refine wpAny_call ?_
  k_dflt (refine' code_defC ?k1 ?k2 ?k3 ?k4 ?k5 ?kA ?kF ?kK ?k6 ?k7 ?k8 ?k9 ?kB ?kD ?_ ?c2 ?c3 ?c4; (case kA => exact rfl); (case kF => exact rfl); (case kK => assumption); (case k1 => k_asm); (case k2 => k_asm); (case k3 => k_asm); (case k4 => k_asm); (case k5 => k_asm); (case k6 => k_is); (case k7 => k_is); (case k8 => ktr_room); (case k9 => exact BindsTo.of_eq rfl); (case kB => exact rfl); (case kD => decide +kernel); (case c2 => exact rfl); (case c3 => exact rfl); (case c4 => exact rfl); k_whole)
  (intro g1 L1 h1 tk1 cells1 FG1 F1 N1 Y1 B1 X1 T1 l1; (try k_lt l1); k_cells Y1; (try simp only [List.cons_append, List.nil_append] at N1); (try dsimp only); (try k_lift B1); (try k_fold))
  try k_fold
  k_steps
  refine Hold.intro (For_unr g1 ?_ (hE := by with_unfolding_all passes_own))
  try k_fold
  k_steps
  (rename Fr _ _ _ _ => F9); (rename News _ _ _ _ => N9); rename IsRange _ _ _ _ _ _ _ _ => rgX
  rename_i oP0 oW d1 d2 l' _ l2 _ _ _ _ _ _ _ _ _
  refine Hold.intro (for_range (n := wn.length + 6) (fun i m₁ nx => m₁ (Str.ofString "taken") = some (.ref l') ∧ ∃ us k oP v, nx = (l', listOf us.toArray k) :: (L1 + 1 + 1, oP) :: (L1 + 1, oW) :: (W, listOf ws.toArray a0) :: rest ∧ oP.data = .cell v ∧ IntsAre us (takens wn i))
    (by rfl) rgX (by first | exact small_one (by omega) (by omega) (by omega) (by omega) | exact small_one (by l_bnd) (by l_bnd) (by l_bnd) (by l_bnd) | decide) (by first | exact rangeSize_nat _ _ | rfl) F9 N9 ⟨by rfl, [], 0, _, _, rfl, d1, .nil⟩ ?_ ?_)
  · rintro i t m₁ nx h tk own hlt ha hoff ⟨hm1, us, k, oP, v, rfl, hoP, hI⟩ F2 N2
    clear F9 N9
    replace F2 := fr_put F2 hm1
    replace N2 := news_swap N2
    (try dsimp only [List.nil_append, List.cons_append] at N2); (try simp only [List.append_nil] at N2); (try simp only [List.map_cons, List.map_nil] at hoff)
    try k_fold
    k_steps
    have hrest : ∀ p ∈ rest, p.1 < L1 := kst_ltOf l1.2
    refine store_cell (pre := [(l', _)]) (post := (L1 + 1, oW) :: (W, listOf ws.toArray a0) :: (rest ++ own)) F2 N2 ?_ ?_ (by rfl) hoP ?_
    · intro p hp
      rw [List.mem_singleton.mp hp]
      exact Nat.ne_of_gt l2.1
    · intro p hp
      simp only [List.mem_cons, List.mem_append] at hp
      rcases hp with rfl | rfl | hp | hp
      · exact Nat.ne_of_lt (Nat.lt_succ_self _)
      · exact Nat.ne_of_lt (Nat.lt_trans l1.1 (by omega))
      · exact Nat.ne_of_lt (Nat.lt_trans (hrest p hp) (by omega))
      · exact hoff p hp _ (by first | k_memK | simp)
    intro h5 o5 F5 N5 d5
    simp only [List.cons_append, List.nil_append] at N5
    clear F2 N2
    try k_fold
    k_steps
    refine Hold.intro ?_
    k_dflt (refine Assign_ListComp_cell (h₀ := g1) (L := L1) (m := fun z => if z = Str.ofString "taken" then some (Value.ref l') else m₁ z) (by rfl) (by with_unfolding_all rfl) (by with_unfolding_all rfl) (by rfl) (by decide) (by intro _ _; with_unfolding_all rfl) (by intro _; with_unfolding_all rfl) (by intro _; with_unfolding_all rfl) (by rfl) (by rfl) ?_)
    try k_fold
    k_steps
    (rename Fr _ _ _ _ => F6); (rename News _ _ _ _ => N6); rename IsRange _ _ _ _ _ _ _ _ => rgY
    refine Hold.intro ⟨_, _, _, _, _, i + 1, _, fun j ys => ∃ bs, LSm.BoolsAre ys bs ∧ bs = (List.range j).map fun (a : Nat) => decide ((i : Int) - (a : Int) < (cntIn wn a i : Int)), rfl, by rfl, F6, N6, rgY, by first | exact small_one (by omega) (by omega) (by omega) (by omega) | exact small_one (by l_bnd) (by l_bnd) (by l_bnd) (by l_bnd), ?_, ?_, ⟨[], .nil, rfl⟩, ?_, ?_⟩
    · exact rangeSize_nat _ _
    · rw [sizeLine_eq]; omega
    · rintro a ta ys I oI C oC K oK D h7 tk7 E' hlt7 ⟨bs, hbs, hbe⟩ hoK F7 N7 hlo7 ⟨n1, n2, n3⟩
      clear F6 N6
      try k_fold
      k_steps
      refine Hold.intro (CompSrcT.ledger (by rfl) F7 N7 (by k_memK) (by rw [List.size_toArray, sizeLine_eq]; omega) ?_)
      intro g9
      refine comp_indT (n := ws.toArray.size) (fun j ys2 news2 => news2 = (I, oI) :: (C, oC) :: (K, oK) :: (D, lst ys) :: (l', listOf us.toArray k) :: (L1 + 1 + 1, o5) :: (L1 + 1, oW) :: (W, listOf ws.toArray a0) :: (rest ++ own) ∧ IntsAre ys2 ((wn.take j).filter fun x => decide ((a : Int) ≤ x) && decide (x ≤ (i : Int)))) ?_ ?_ _ 0 [] _ (Nat.zero_add _) ⟨rfl, .nil⟩
      · rintro j ys2 news2 v9 I9 oI9 C9 oC9 D9 m9 h9 tk9 E9 hj ⟨rfl, hys2⟩ hP hC9 hx9 F8 N8 off9 ne9
        clear F7 N7
        rw [List.size_toArray] at hj
        have hj2 : j < wn.length := by omega
        obtain ⟨t9, e9⟩ := hw.get j wn[j] (by simp [hj2])
        have hv9 : v9 = .int wn[j] t9 := by
          have hP' : ws[j]? = some v9 := by simpa using hP
          rw [e9] at hP'; exact (Option.some.inj hP').symm
        subst hv9
        have hS9 : SrcAt g1 W ws.toArray ((I, oI) :: (C, oC) :: (K, oK) :: (D, lst ys) :: (l', listOf us.toArray k) :: (L1 + 1 + 1, o5) :: (L1 + 1, oW) :: (W, listOf ws.toArray a0) :: (rest ++ own)) := .inr ⟨_, by k_memK, rfl, _, rfl⟩
        have htk : wn.take (j + 1) = wn.take j ++ [wn[j]] := by rw [List.take_add_one, List.getElem?_eq_getElem hj2]; rfl
        try k_fold
        k_steps
        · refine Hold.intro (CompEnd.intro (by assumption) (by assumption) _ (fun _ h => h) off9 hS9 ⟨rfl, ?_⟩)
          rw [htk, List.filter_append]
          refine IntsAre.append hys2 ?_
          rw [List.filter_cons, if_pos (by simp only [Bool.and_eq_true, decide_eq_true_eq]; exact ⟨by assumption, by assumption⟩)]
          exact .cons _ _ .nil
        · refine Hold.intro (CompEnd.intro (by assumption) (by assumption) _ (fun _ h => h) off9 hS9 ⟨rfl, ?_⟩)
          rw [htk, List.filter_append, List.filter_cons, if_neg (by simp only [Bool.and_eq_true, decide_eq_true_eq]; rintro ⟨q1, q2⟩; omega), List.filter_nil, List.append_nil]
          exact hys2
        · refine Hold.intro (CompEnd.intro (by assumption) (by assumption) _ (fun _ h => h) off9 hS9 ⟨rfl, ?_⟩)
          rw [htk, List.filter_append, List.filter_cons, if_neg (by simp only [Bool.and_eq_true, decide_eq_true_eq]; rintro ⟨q1, q2⟩; omega), List.filter_nil, List.append_nil]
          exact hys2
      · rintro ys2 news2 ⟨rfl, hys2⟩
        intro D2 h9 tk9 F8 N8 off9
        clear F7 N7
        have hln : ys2.length = cntIn wn a i := by
          rw [hys2.length, List.size_toArray, hwl, List.take_length]
          unfold cntIn
          rw [List.countP_eq_length_filter]
        have hcl : cntIn wn a i ≤ 9 := by unfold cntIn; exact Nat.le_trans List.countP_le_length hlen
        try k_fold
        k_steps
        refine kst_len N8 (us := ys2) (c := ys2.length) (by k_memK) hln (by omega) ?_
        try k_fold
        k_steps
        refine Hold.intro (ccEnd (by assumption) (by assumption) (by kst_inAny) ⟨_, bools_snoc hbs _, ?_⟩)
        rw [hbe, List.range_succ, List.map_append]
        rfl
    · rintro ys D h7 tk7 ⟨bs, hbs, hbe⟩ F7 N7 hlo7
      clear F6 N6
      have hbany : bs.any (· == true) = takenP wn i := by
        rw [hbe, List.any_map]
        unfold takenP
        congr 1
        funext a
        simp
      have hro : ∀ p ∈ rest ++ own, p.1 ≠ l' := by
        intro p hp
        rcases List.mem_append.mp hp with hp | hp
        · exact Nat.ne_of_lt (kst_ltOf l2.2.2.2 p hp)
        · exact hoff p hp _ (by first | k_memK | simp)
      have q1 : @LT.lt Nat _ l' D := hlo7 (l', listOf us.toArray k) (by simp)
      have q2 := l2.1
      have q3 := l2.2.1
      have q4 := l2.2.2.1
      have htk : takens wn (i + 1) = if takenP wn i = true then takens wn i ++ [(i : Int)] else takens wn i := by
        unfold takens
        rw [List.range_succ, List.filter_append, List.filter_cons, List.filter_nil]
        split
        · rw [List.map_append]; rfl
        · rw [List.append_nil]
      have htl : (takens wn i).length ≤ i := by
        unfold takens
        rw [List.length_map]
        exact Nat.le_trans (List.length_filter_le _ _) (by rw [List.length_range]; exact Nat.le_refl _)
      have hul := hI.length
      try k_fold
      k_steps
      refine in_bools ⟨_, (N7 (D, lst ys) (by simp)).1, rfl, _, rfl⟩ hbs ?_
      rw [hbany]
      by_cases htp : takenP wn i = true
      · rw [htp] at htk ⊢
        rw [if_pos rfl] at htk
        try k_fold
        k_steps
        (rename Fr _ _ _ _ => F8); (rename News _ _ _ _ => N8)
        simp only [List.push_toArray] at N8
        refine Hold.intro (LoopStep2.intro (news₂ := (l', listOf (us ++ [Value.int (i : Int) t]).toArray (k + 1)) :: (L1 + 1 + 1, o5) :: (L1 + 1, oW) :: (W, listOf ws.toArray a0) :: rest) F8 (kst_newsOf N8 ?_) (by rfl) ⟨by with_unfolding_all rfl, _, _, _, _, rfl, d5, ?_⟩)
        · intro p hp
          simp only [List.mem_cons, List.mem_append] at hp ⊢
          rcases hp with hp | hp | hp | hp | hp | hp <;> simp [hp]
        · rw [htk]
          exact IntsAre.append hI (.cons _ _ .nil)
      · rw [Bool.not_eq_true] at htp
        rw [htp] at htk ⊢
        rw [if_neg (by decide)] at htk
        try k_fold
        k_steps
        (rename Fr _ _ _ _ => F8); (rename News _ _ _ _ => N8)
        refine Hold.intro (LoopStep2.intro (news₂ := (l', listOf us.toArray k) :: (L1 + 1 + 1, o5) :: (L1 + 1, oW) :: (W, listOf ws.toArray a0) :: rest) F8 (kst_newsOf N8 ?_) (by rfl) ⟨by with_unfolding_all rfl, _, _, _, _, rfl, d5, ?_⟩)
        · intro p hp
          simp only [List.mem_cons, List.mem_append] at hp ⊢
          rcases hp with hp | hp | hp | hp | hp | hp <;> simp [hp]
        · rw [htk]
          exact hI
  · rintro m₁ nx h tk ⟨hm1, us, k, oP, v, rfl, hoP, hI⟩ F2 N2
    clear F9 N9
    replace F2 := fr_put F2 hm1
    try k_fold
    k_steps
    (rename Fr _ _ _ _ => F8); (rename News _ _ _ _ => N8)
    refine hret _ _ _ _ F8 (kst_newsOf N8 ?_) ⟨l', us, k, rfl, hI, rfl, l2.2.2.1, kst_ltOf l2.2.2.2⟩
    intro p hp
    rcases List.mem_cons.mp hp with rfl | hp
    · exact List.mem_cons_self
    · exact List.mem_cons_of_mem _ (List.mem_cons_of_mem _ (List.mem_cons_of_mem _ hp))
end
section
theorem last_erase {xs ys : List Int} (h : xs.Perm ys) (hpos : 0 < xs.length) : xs.getLastD 0 ∈ ys ∧ xs.dropLast.Perm (ys.erase (xs.getLastD 0)) := by
  have hne : xs ≠ [] := by intro e; rw [e] at hpos; exact absurd hpos (by decide)
  have e := List.dropLast_concat_getLast hne
  have e2 : xs.getLastD 0 = xs.getLast hne := by rw [List.getLastD_eq_getLast?, List.getLast?_eq_some_getLast hne, Option.getD_some]
  rw [e2]
  have hm : xs.getLast hne ∈ ys := h.mem_iff.mp (List.getLast_mem hne)
  refine ⟨hm, ?_⟩
  have q : (xs.getLast hne :: xs.dropLast).Perm xs := by
    conv => rhs; rw [← e]
    exact List.perm_append_comm (l₁ := [xs.getLast hne])
  exact (List.perm_cons _).mp ((q.trans h).trans (List.perm_cons_erase hm))
theorem unord_c (w : World) {Xa Ya : Addr} {us vs : List Value} {xs ys : List Int} {a0 b0 : Nat} {rest : List (Addr × Obj)} (hx : IntsAre us xs) (hy : IntsAre vs ys) (hlen : xs.length ≤ 20) (hpm : xs.Perm ys) (hXY : @Ne Nat Xa Ya) (hrX : ∀ p ∈ rest, p.1 ≠ Xa) (hrY : ∀ p ∈ rest, p.1 ≠ Ya) :
    Ctr w 10 113 [.ref Xa, .ref Ya] ((Xa, listOf us.toArray a0) :: (Ya, listOf vs.toArray b0) :: rest) (fun r news' => ∃ T M k, r = .ref T ∧ news' = (T, tupOf [.ref M, .ref Ya]) :: (M, listOf #[] 0) :: (Ya, listOf #[] k) :: rest ∧ M < T ∧ Ya < M ∧ ∀ p ∈ rest, p.1 < M) := by
  k_with_none
  w_top off
  have hkf := kfill w
  (revert hkf; k_fill; intro hkf)
  clear hkf
  refine Ctr.mk ?_
  k_with "call ref" => (refine unhold ?_)
  k_with "exec While Name cons nil" => (refine unhold ?_)
  k_with "call builtin:list.remove" => (refine unhold ?_)
  have hMark := kstMark
  intro p_ loose mean mg mb dp un gd cn cs a ccd cl outer A₀ base h₀ L m s Q E B F X N T hk hdp hun hret
  refine wpAny_call ?_
  k_dflt cell_enter
  try k_fold
  k_steps
  refine Hold.intro ?_
  (rename Fr _ _ _ _ => F9); (rename News _ _ _ _ => N9)
  rename_i Ma _ l1 _
  refine' ksw_while (σ := List Value × List Int × Nat × List Value × List Int × Nat) (fun c => (Ma, listOf #[] 0) :: (Xa, listOf c.1.toArray c.2.2.1) :: (Ya, listOf c.2.2.2.1.toArray c.2.2.2.2.2) :: rest) (fun c => [])
    (fun c => IntsAre c.1 c.2.1 ∧ IntsAre c.2.2.2.1 c.2.2.2.2.1) [Str.ofString "item"]
    (fun c => c.2.1.Perm c.2.2.2.2.1 ∧ c.2.1.length ≤ 20)
    (fun c => c.2.1.length) (us, xs, a0, vs, ys, b0) F9 N9 ⟨hx, hy⟩ (by kst_all) ⟨hpm, hlen⟩ ?_ (by passes_own)
  rintro ⟨us1, xs1, k1, vs1, ys1, k2⟩ u h tk2 ⟨hi1, hi2⟩ ⟨a0, a1⟩ F2 N2
  clear F9 N9
  try dsimp only at hi1 hi2 a0 a1 F2 N2
  try dsimp only [kstB] at F2
  try k_fold
  have hul := hi1.length
  have hvl := hi2.length
  have hpl := a0.length_eq
  by_cases hpos : 0 < xs1.length
  · have hpos2 : 0 < us1.length := by omega
    try k_fold
    k_steps
    (rename Fr _ _ _ _ => F3); (rename News _ _ _ _ => N3)
    have hl0 := last_erase a0 hpos
    refine Hold.intro (my_remove (rest := (Ma, listOf #[] 0) :: (Xa, listOf us1.dropLast.toArray (k1 + 1)) :: rest) F3 (kst_newsOf N3 (by kst_inAny)) ?_ hi2 (by omega) hl0.1 ?_)
    · intro p hp
      simp only [List.mem_cons] at hp
      rcases hp with rfl | rfl | hp
      · exact Nat.ne_of_gt l1.2.1
      · exact hXY
      · exact hrY p hp
    intro h5 F5 N5 hI5
    try k_fold
    k_steps
    (rename Fr _ _ _ _ => F6); (rename News _ _ _ _ => N6)
    rename IntsAre us1.dropLast _ => hI4
    refine Hold.intro (ksw_end ⟨_, _, _, _, _, _⟩ F6 N6 (by kst_inAny) ⟨hI4, hI5⟩ (by kst_all) (by ksw_same) ?_ ?_)
    · dsimp only
      exact ⟨hl0.2, by rw [List.length_dropLast]; omega⟩
    · dsimp only
      rw [List.length_dropLast]
      omega
  · k_steps
    (rename Fr _ _ _ _ => F6); (rename News _ _ _ _ => N6)
    rename_i T9 _ _ _ l4 _ _
    have e1 : vs1 = [] := List.length_eq_zero_iff.mp (by omega)
    subst e1
    refine hret _ _ _ _ F6 (kst_newsOf N6 ?_) ⟨T9, Ma, k2, rfl, rfl, l4.1, l1.2.1, kst_ltOf l1.2.2⟩
    kst_inAny
end
section
noncomputable def rowDat (c w : Int) (p : Int) : Dat := .tuple [.int c, .int w, .int p]
noncomputable def rowStep (wn : List Int) (k : Nat) : List Dat := if wn.getD k 0 ∉ wn.take k ∧ 1 < wn.count (wn.getD k 0) then [rowDat (wn.count (wn.getD k 0) : Nat) 1 (wn.getD k 0)] else []
noncomputable def rowsUp (wn : List Int) (j : Nat) : List Dat := (List.range j).flatMap (rowStep wn)
noncomputable def lawRows (wn pn : List Int) : List Dat := rowsUp wn wn.length ++ (pn.filter fun x => decide (x ∉ wn)).map (rowDat 0 1)
theorem rowsUp_len (wn : List Int) (j : Nat) : (rowsUp wn j).length ≤ j := by
  induction j with
  | zero => exact Nat.le_refl _
  | succ j ih =>
    rw [rowsUp, List.range_succ, List.flatMap_append, List.length_append, List.flatMap_singleton]
    have : (rowStep wn j).length ≤ 1 := by unfold rowStep; split <;> simp
    have h2 : ((List.range j).flatMap (rowStep wn)).length ≤ j := ih
    omega
theorem any_mem (l : List Int) (x : Int) : (l.any fun y => y == x) = true ↔ x ∈ l := by
  rw [List.any_eq_true]
  constructor
  · rintro ⟨y, hy, e⟩; rw [← eq_of_beq e]; exact hy
  · intro h; exact ⟨x, h, beq_self_eq_true x⟩
theorem rows_c (w : World) {W P : Addr} {ws ps : List Value} {wn pn : List Int} {a0 b0 : Nat} {rest : List (Addr × Obj)} (hw : IntsAre ws wn) (hpi : IntsAre ps pn) (hlen : wn.length ≤ 9) (hlp : pn.length = wn.length) :
    Ctr w 10 218 [.ref W, .ref P] ((W, listOf ws.toArray a0) :: (P, listOf ps.toArray b0) :: rest) (fun r news' => ∃ D us tlx, r = .ref D ∧ news' = (D, listOf us.toArray 0) :: (W, listOf ws.toArray a0) :: (P, listOf ps.toArray b0) :: (rest ++ tlx) ∧ DatAll news' us (lawRows wn pn)) := by
  k_with_none
  w_top off
  have hkf := kfill w
  (revert hkf; k_fill; intro hkf)
  clear hkf
  refine Ctr.mk ?_
  k_with "call ref" => (refine unhold ?_)
  k_with "pyIter ref" => (refine unhold ?_)
  k_with "eval ListComp" => (refine unhold ?_)
  k_with "call builtin:list.count" => (refine unhold ?_)
  have hwl := hw.length
  have hMark := kstMark
  intro p_ loose mean mg mb dp un gd cn cs a ccd cl outer A₀ base h₀ L m s Q E B F X N T hk hdp hun hret
  refine wpAny_call ?_
  k_dflt (refine' code_defC ?k1 ?k2 ?k3 ?k4 ?k5 ?kA ?kF ?kK ?k6 ?k7 ?k8 ?k9 ?kB ?kD ?_ ?c2 ?c3 ?c4; (case kA => exact rfl); (case kF => exact rfl); (case kK => assumption); (case k1 => k_asm); (case k2 => k_asm); (case k3 => k_asm); (case k4 => k_asm); (case k5 => k_asm); (case k6 => k_is); (case k7 => k_is); (case k8 => ktr_room); (case k9 => exact BindsTo.of_eq rfl); (case kB => exact rfl); (case kD => decide +kernel); (case c2 => exact rfl); (case c3 => exact rfl); (case c4 => exact rfl); k_whole)
  (intro g1 L1 h1 tk1 cells1 FG1 F1 N1 Y1 B1 X1 T1 l1; (try k_lt l1); k_cells Y1; (try simp only [List.cons_append, List.nil_append] at N1); (try dsimp only); (try k_lift B1); (try k_fold))
  try k_fold
  k_steps
  (rename Fr _ _ _ _ => F9); (rename News _ _ _ _ => N9); rename IsRange _ _ _ _ _ _ _ _ => rgX
  rename_i oW d1 R _ l2 _ _ _ _ _ _ _ _ _
  refine Hold.intro ?_
  refine' kd_range (σ := List Value × List Dat × Nat) (fun c => [(R, listOf c.1.toArray c.2.2)]) ((L1 + 1, oW) :: (W, listOf ws.toArray a0) :: (P, listOf ps.toArray b0) :: rest) (fun c => []) (fun l c => DatAll l c.1 c.2.1) []
    (fun pre c => c.2.1 = rowsUp wn pre.length) (R :: (L1 + 1) :: W :: P :: rest.map (·.1)) ([], [], 0) (n := wn.length) (by rfl) rgX (by first | exact small_one (by omega) (by omega) (by omega) (by omega) | exact small_one (by l_bnd) (by l_bnd) (by l_bnd) (by l_bnd) | decide) (by first | exact rangeSize_nat _ _ | rfl) F9 N9 (by simp) (by intro c; rfl) .nil (by kst_all) (by rfl) ?_ ?_
  · rintro ⟨us, ds, k2⟩ tl pre k t u h tk own heq hlt hsep hoff hf hp F2 N2
    clear F9 N9
    (try dsimp only at hf hp F2 N2); (try dsimp only [kstB] at F2)
    (try dsimp only [List.nil_append, List.cons_append] at N2); (try simp only [List.append_nil] at N2)
    have hkb : 0 ≤ k ∧ k < wn.length := by omega
    have hkt : k.toNat = pre.length := by omega
    have hkl : k.toNat < wn.length := by omega
    have hro : ∀ p ∈ rest ++ (tl ++ own), p.1 ≠ R := by
      intro p hp
      rcases List.mem_append.mp hp with hp | hp
      · exact Nat.ne_of_lt (kst_ltOf l2.2.2.2 p hp)
      · exact hoff p hp _ (by first | k_memK | simp)
    have q2 := l2.1
    have q3 := l2.2.1
    have q4 := l2.2.2.1
    have hul := hf.length
    have hdl : ds.length ≤ 9 := by
      rw [hp]
      exact Nat.le_trans (rowsUp_len wn _) (by omega)
    have hrs : rowsUp wn (pre ++ [k]).length = rowsUp wn pre.length ++ if wn.getD k.toNat 0 ∉ wn.take k.toNat ∧ 1 < wn.count (wn.getD k.toNat 0) then [rowDat (wn.count (wn.getD k.toNat 0) : Nat) 1 (wn.getD k.toNat 0)] else [] := by
      rw [List.length_append, List.length_singleton, rowsUp, List.range_succ, List.flatMap_append, hkt]
      show _ ++ [pre.length].flatMap (rowStep wn) = _
      rw [List.flatMap_singleton]
      rfl
    try k_fold
    k_steps
    · rename List.any _ _ = true => han
      (rename Fr _ _ _ _ => F6); (rename News _ _ _ _ => N6)
      refine Hold.intro (kd_end ⟨us, ds, k2⟩ [] hsep F6 N6 ?_ ?_ (by rfl) (fun q hq => nomatch hq) (fun q hq => nomatch hq) (by kst_all) (by kst_same) hf ?_)
      · kst_inAny
      · kst_anyIn
      · dsimp only
        rw [hp, hrs, if_neg (fun h => h.1 ((any_mem _ _).mp han)), List.append_nil]
    · rename_i tkA tB tC T9 _ l5 _ F6 N6
      simp only [List.push_toArray] at N6
      rename List.any _ _ = false => han
      rename 1 < _ => hct
      refine Hold.intro (kd_end ⟨us ++ [.ref T9], ds ++ [rowDat (wn.count (wn.getD k.toNat 0) : Nat) 1 (wn.getD k.toNat 0)], k2 + 1⟩ [(T9, tupOf [.int (wn.count (wn.getD k.toNat 0) : Nat) tkA, .int 1 (tkA + 1), .int (wn.getD k.toNat 0) tC])] hsep F6 N6 ?_ ?_ (by rfl) ?_ ?_ (by kst_all) (by kst_same) ?_ ?_)
      · kst_inAny
      · kst_anyIn
      · intro q hq b hb
        rw [List.mem_singleton.mp hq]
        simp only [List.mem_cons, List.mem_map] at hb
        rcases hb with h | h | h | h | ⟨p, hp, h⟩
        · rw [h]; exact Nat.ne_of_lt l5.2.1
        · rw [h]; exact Nat.ne_of_lt l5.2.2.1
        · rw [h]; exact Nat.ne_of_lt l5.2.2.2.1
        · rw [h]; exact Nat.ne_of_lt l5.2.2.2.2.1
        · rw [← h]; exact Nat.ne_of_lt (kst_ltOf l5.2.2.2.2.2 p (List.mem_append_left _ hp))
      · intro q hq p hp
        rw [List.mem_singleton.mp hq]
        exact Nat.ne_of_lt (kst_ltOf l5.2.2.2.2.2 p (List.mem_append_right _ (List.mem_append_right _ hp)))
      · refine DatAll.append (DatAll.mono ?_ hf) (.cons (.tuple (n := 0) (a := T9) ?_ (.cons (.int _ tkA) (.cons (.int _ (tkA + 1)) (.cons (.int _ tC) .nil)))) .nil)
        · kst_inAny
        · exact List.mem_append_right _ List.mem_cons_self
      · dsimp only
        rw [hp, hrs, if_pos ⟨fun h => by rw [(any_mem _ _).mpr h] at han; exact absurd han (by decide), by exact_mod_cast hct⟩]
    · rename List.any _ _ = false => han
      rename ¬ 1 < _ => hct
      (rename Fr _ _ _ _ => F6); (rename News _ _ _ _ => N6)
      refine Hold.intro (kd_end ⟨us, ds, k2⟩ [] hsep F6 N6 ?_ ?_ (by rfl) (fun q hq => nomatch hq) (fun q hq => nomatch hq) (by kst_all) (by kst_same) hf ?_)
      · kst_inAny
      · kst_anyIn
      · dsimp only
        rw [hp, hrs, if_neg (fun h => hct (by exact_mod_cast h.2)), List.append_nil]
  · rintro ⟨us, ds, k2⟩ tl u h tk hoff hf hp F2 N2
    clear F9 N9
    (try dsimp only at hf hp F2 N2); (try dsimp only [kstB] at F2)
    (try dsimp only [List.nil_append, List.cons_append] at N2); (try simp only [List.append_nil] at N2)
    rw [rangeKs_length] at hp
    try k_fold
    k_steps
    (rename Fr _ _ _ _ => F3); (rename News _ _ _ _ => N3)
    have hpl := hpi.length
    refine Hold.intro (LCt.CompSrcT.ledger (by rfl) F3 N3 (by k_memK) (by rw [List.size_toArray, sizeLine_eq]; omega) ?_)
    intro g9
    refine comp_indT (n := ps.toArray.size) (fun j ys2 nx => ∃ tl2, nx = (R, listOf us.toArray k2) :: (L1 + 1, oW) :: (W, listOf ws.toArray a0) :: (P, listOf ps.toArray b0) :: (rest ++ (tl ++ tl2)) ∧ DatAll nx ys2 (((pn.take j).filter fun x => decide (x ∉ wn)).map (rowDat 0 1))) ?_ ?_ _ 0 [] _ (Nat.zero_add _) ⟨[], by rw [List.append_nil], .nil⟩
    · rintro j ys2 nx v9 I9 oI9 C9 oC9 D9 m9 h9 tk9 E9 hj ⟨tl2, rfl, hys2⟩ hP hC9 hx9 F8 N8 off9 ne9
      clear F3 N3
      rw [List.size_toArray] at hj
      have hj2 : j < pn.length := by omega
      obtain ⟨t9, e9⟩ := hpi.get j pn[j] (by simp [hj2])
      have hv9 : v9 = .int pn[j] t9 := by
        have hP' : ps[j]? = some v9 := by simpa using hP
        rw [e9] at hP'; exact (Option.some.inj hP').symm
      subst hv9
      have htk : pn.take (j + 1) = pn.take j ++ [pn[j]] := by rw [List.take_add_one, List.getElem?_eq_getElem hj2]; rfl
      try k_fold
      k_steps
      · (rename Fr _ _ _ _ => F6); (rename News _ _ _ _ => N6)
        rename (List.any _ _) = true => han
        have hin : pn[j] ∈ wn := (any_mem _ _).mp han
        refine Hold.intro (LCg.CompEnd.intro F6 N6 _ (fun _ h => h) off9 (.inr ⟨_, by k_memK, rfl, _, rfl⟩) ⟨tl2, rfl, ?_⟩)
        rw [htk, List.filter_append, List.filter_cons, if_neg (by simp [hin]), List.filter_nil, List.append_nil]
        exact hys2
      · rename_i T9 _ F6 N6 l5
        rename (List.any _ _) = false => han
        have hin : pn[j] ∉ wn := fun h => by rw [(any_mem _ _).mpr h] at han; exact absurd han (by decide)
        have hsub : ∀ p ∈ (R, listOf us.toArray k2) :: (L1 + 1, oW) :: (W, listOf ws.toArray a0) :: (P, listOf ps.toArray b0) :: (rest ++ (tl ++ ((T9, tupOf [.int 0 tk9, .int 1 (tk9 + 1), .int pn[j] t9]) :: tl2))), p = (T9, tupOf [.int 0 tk9, .int 1 (tk9 + 1), .int pn[j] t9]) ∨ p ∈ (R, listOf us.toArray k2) :: (L1 + 1, oW) :: (W, listOf ws.toArray a0) :: (P, listOf ps.toArray b0) :: (rest ++ (tl ++ tl2)) := by
          intro p hp
          simp only [List.mem_cons, List.mem_append] at hp ⊢
          grind
        refine Hold.intro (LCg.CompEnd.intro F6 N6 ((R, listOf us.toArray k2) :: (L1 + 1, oW) :: (W, listOf ws.toArray a0) :: (P, listOf ps.toArray b0) :: (rest ++ (tl ++ ((T9, tupOf [.int 0 tk9, .int 1 (tk9 + 1), .int pn[j] t9]) :: tl2)))) ?_ ?_ (.inr ⟨_, by k_memK, rfl, _, rfl⟩) ⟨(T9, tupOf [.int 0 tk9, .int 1 (tk9 + 1), .int pn[j] t9]) :: tl2, rfl, ?_⟩)
        · intro p hp
          simp only [List.mem_cons] at hp
          rcases hp with rfl | rfl | rfl | hp
          · simp
          · simp
          · simp
          · rcases hsub p (by simpa only [List.mem_cons] using hp) with rfl | hp
            · exact List.mem_cons_self
            · exact List.mem_cons_of_mem _ (List.mem_cons_of_mem _ (List.mem_cons_of_mem _ (List.mem_cons_of_mem _ hp)))
        · refine LCg.Off3.of fun p hp => ?_
          rcases hsub p hp with rfl | hp
          · exact ⟨Nat.ne_of_gt l5.1, Nat.ne_of_gt l5.2.1, Nat.ne_of_gt l5.2.2.1⟩
          · exact off9.mem p hp
        · rw [htk, List.filter_append, List.filter_cons, if_pos (by simp [hin]), List.filter_nil, List.map_append]
          refine DatAll.append (DatAll.mono ?_ hys2) (.cons (.tuple (n := 0) (a := T9) ?_ (.cons (.int _ tk9) (.cons (.int _ (tk9 + 1)) (.cons (.int _ t9) .nil)))) .nil)
          · kst_inAny
          · simp
    · rintro ys2 nx ⟨tl2, rfl, hys2⟩
      intro D2 h9 tk9 F8 N8 off9
      clear F3 N3
      have hrl := rowsUp_len wn wn.length
      have hul := hf.length
      have hyl := hys2.length
      have hfl : (((pn.take ps.toArray.size).filter fun x => decide (x ∉ wn)).map (rowDat 0 1)).length ≤ 9 := by
        rw [List.length_map]
        refine Nat.le_trans (List.length_filter_le _ _) ?_
        rw [List.length_take]
        omega
      try k_fold
      k_steps
      refine add_lists F8 N8 (vs := us) (ws := ys2) ⟨_, (N8 (R, listOf us.toArray k2) (by simp)).1, rfl, _, rfl⟩ ⟨_, (N8 (D2, LCg.lst ys2) (by simp)).1, rfl, _, rfl⟩ (fun h5 F5 N5 => ?_) (by rw [sizeLine_eq]; rw [hp] at hul; omega)
      try k_fold
      k_steps
      (rename Fr _ _ _ _ => F6); (rename News _ _ _ _ => N6)
      have hfull : pn.take ps.toArray.size = pn := List.take_of_length_le (by rw [List.size_toArray]; omega)
      rw [hfull] at hys2
      refine hret _ _ _ _ F6 (kst_newsOf N6 ?_) ⟨h9.objs.size, us ++ ys2, (R, listOf us.toArray k2) :: (L1 + 1, oW) :: (tl ++ tl2), rfl, rfl, ?_⟩
      · kst_inAny
      · unfold lawRows
        rw [hp] at hf
        refine DatAll.append (DatAll.mono ?_ hf) (DatAll.mono ?_ hys2)
        · kst_inAny
        · kst_inAny
end
section
noncomputable def CtrL (w : World) (k : Nat) (f : Addr) (vs : List Value) (news : List (Addr × Obj)) (Post : Value → List (Addr × Obj) → Prop) : Prop :=
  ∀ (p : Program) (loose : List Str) (mean : ExcName → Option Value) (mg mb : Str → Option Value) (dp un : Nat) (gd : Option (List Code)) (cn : Str) (cs : Scope) (a : Addr) (ccd : Value) (cl : List (Str × Addr)) (h₀ : Heap) (L : Addr) (m : Str → Option Value) (s : Shared) (Q E : Value → Shared → Prop),
    Fr h₀ L s.heap m → (KK w).In h₀ → News h₀ L s.heap news → Top p loose mean mg mb h₀ → cs.kind = .function → dp + k < recursionLimit → un + 40 * k < cLine →
    (∀ r news' h' tk', Fr h₀ L h' m → News h₀ L h' news' → Post r news' → Q r { s with heap := h', toks := tk' }) →
    wpAny (model Pg w) (ktrTop dp un gd cn cs L a ccd cl []) (call (.ref f) vs) Q E s
theorem CtrL.use {w : World} {k : Nat} {f : Addr} {vs : List Value} {news : List (Addr × Obj)} {Post : Value → List (Addr × Obj) → Prop} (C : CtrL w k f vs news Post)
  {p : Program} {loose : List Str} {mean : ExcName → Option Value} {mg mb : Str → Option Value} {dp un : Nat} {gd : Option (List Code)} {cn : Str} {cs : Scope} {a : Addr} {ccd : Value} {cl : List (Str × Addr)} {h₀ : Heap} {L : Addr} {m : Str → Option Value} {s : Shared} {Q E : Value → Shared → Prop}
  (F : Fr h₀ L s.heap m) (X : (KK w).In h₀) (N : News h₀ L s.heap news) (T : Top p loose mean mg mb h₀) (hk : cs.kind = .function) (hd : dp + k < recursionLimit) (hu : un + 40 * k < cLine)
  (ret : ∀ r news' h' tk', Fr h₀ L h' m → News h₀ L h' news' → Post r news' → Q r { s with heap := h', toks := tk' }) :
  wpAny (model Pg w) (ktrTop dp un gd cn cs L a ccd cl []) (call (.ref f) vs) Q E s := C _ _ _ _ _ _ _ _ _ _ _ _ _ _ _ _ _ _ _ F X N T hk hd hu ret
theorem CtrL.mk {w : World} {k : Nat} {f : Addr} {vs : List Value} {news : List (Addr × Obj)} {Post : Value → List (Addr × Obj) → Prop}
  (h : ∀ (p : Program) (loose : List Str) (mean : ExcName → Option Value) (mg mb : Str → Option Value) (dp un : Nat) (gd : Option (List Code)) (cn : Str) (cs : Scope) (a : Addr) (ccd : Value) (cl : List (Str × Addr)) (h₀ : Heap) (L : Addr) (m : Str → Option Value) (s : Shared) (Q E : Value → Shared → Prop),
    Fr h₀ L s.heap m → (hd.heap_1 w.params).In h₀ → News h₀ L s.heap news → Top p loose mean mg mb h₀ → cs.kind = .function → dp + k < recursionLimit → un + 40 * k < cLine →
    (∀ r news' h' tk', Fr h₀ L h' m → News h₀ L h' news' → Post r news' → Hold (Q r { s with heap := h', toks := tk' })) →
    wpAny (model Pg w) (ktrTop dp un gd cn cs L a ccd cl []) (call (.ref f) vs) (fun r s' => Hold (Q r s')) E s) : CtrL w k f vs news Post :=
  fun _ _ _ _ _ _ _ _ _ _ _ _ _ _ _ _ _ _ _ F X N T hk hd hu ret => wpAny_mono (h _ _ _ _ _ _ _ _ _ _ _ _ _ _ _ _ _ _ _ F X N T hk hd hu fun r n' h' t' F' N' P' => ⟨ret r n' h' t' F' N' P'⟩) (fun _ _ q => q.out) fun _ _ e => e
theorem code_defL {prog : Program} {w : World} {dp un : Nat} {gd : Option (List Code)} {cl : List (Str × Addr)} {s : Shared} {h₀ : Heap} {L a : Addr} {m : Str → Option Value} {cn : Str} {cs : Scope} {ccd : Value} {news : List (Addr × Obj)} {K : Frag} {p : Program} {loose : List Str} {mean : ExcName → Option Value} {mg mb : Str → Option Value}
    {R : Result → Shared → Prop} {name qual : Str} {params : Arguments} {body : List Stmt} {scope : Scope} {dV kV doc pm cdv ct oc : Value} {an od : Option Addr} {osl : Array (Option Value)} {f : Addr} {args : Args} {binds : List (Str × Value)}
    (F : Fr h₀ L s.heap m) (X₀ : K.In h₀) (N : News h₀ L s.heap news) (T : Top p loose mean mg mb h₀)
    (ho : K.lookup f = some ⟨oc, od, .func (fnOf name qual params body scope dV kV doc pm an cdv ct), osl⟩) (hcd : codeIn K cdv qual = true) (hroom : dp < recursionLimit)
    (hbind : BindsTo s (fnOf name qual params body scope dV kV doc pm an cdv ct) args binds) (hloc : ∀ y ∈ binds, scope.names.lookup y.1 = some .local) (hck : cs.kind = .function)
    (h : ∀ oL h₁ L', Hold (TI.Caller h₀ L m oL) → Hold (TI.Frs [envX cn cs L a ccd cl] [(L, oL)]) → Hold (∀ p ∈ news, p.1 ≠ L) → Fr h₀ L' h₁ (fun y => binds.reverse.lookup y) → News h₀ L' h₁ (news ++ [(L, oL)]) →
      wpAny (model prog w) ((ktrTop dp un gd cn cs L a ccd cl []).deeper (envOf qual scope L' f cdv)) (execs body (envOf qual scope L' f cdv))
        (fun fl s' => TI.LeaveI s' (R (.ok (.ret (match fl with | .ret v => v | _ => .none))) s'))
        (fun e s' => wpAny (model prog w) ((ktrTop dp un gd cn cs L a ccd cl []).deeper (envOf qual scope L' f cdv)) (leaving (envOf qual scope L' f cdv) e) (fun _ s'' => TI.LeaveX (R (.error e) s'')) (fun e' s'' => TI.LeaveX (R (.error e') s'')) s')
        { s with heap := h₁, toks := s.toks + binds.length })
    (hco : scope.isCoroutine = false := by rfl) (hgen : scope.isGenerator = false := by rfl) (hk : scope.kind = .function := by rfl)
    (hcell : ∀ x ∈ scope.names, x.2 ≠ .cell := by decide) : codeAny (model prog w) (ktrTop dp un gd cn cs L a ccd cl []) (.call (.ref f) args) R s := by
  have X := X₀.keeps F.keep
  obtain ⟨oL, es, ep, hL, hLd, hLk, hLf⟩ := F.ns
  have hLt := Heap.lt_size hL
  have hkind : (envX cn cs L a ccd cl).scope.kind ≠ .module := by
    show cs.kind ≠ .module
    rw [hck]; decide
  refine codeAny_call_def (fd := fnOf name qual params body scope dV kV doc pm an cdv ct) (body := body) (binds := binds) hroom (X _ _ ho) rfl (T.nolimit.keeps F.keep) (codeRec_of X hcd) rfl hbind hcell hloc (fun h₁ hns hk₁ => ?_) hco hgen hk
  have up : ∀ b o, s.heap.get? b = some o → h₁.get? b = some o := fun b o e => hk₁ b o e
  refine wpAny_mono (h oL h₁ _ ⟨⟨fun h' sl e => ⟨_, es, ep, e, hLd, hLk, hLf⟩, ⟨es, ep, hLd⟩, F.above⟩⟩ ⟨⟨hkind, rfl, ⟨es, ep, hLd⟩, trivial⟩⟩ ⟨fun p hp => (N p hp).2.1⟩
    ⟨hns, fun b o e => up b o (F.keep b o e), Nat.le_trans F.above (Nat.le_of_lt hLt)⟩ (fun p hp => ?_)) (fun _ _ x => x) fun _ _ x => wpAny_mono x (fun _ _ y => y) fun _ _ y => y
  rcases List.mem_append.mp hp with hp | hp
  · obtain ⟨h1, h2, h3⟩ := N p hp
    exact ⟨up _ _ h1, Nat.ne_of_lt (Heap.lt_size h1), h3⟩
  · rcases List.mem_cons.mp hp with rfl | hp
    · exact ⟨up _ _ hL, Nat.ne_of_lt hLt, Heap.get?_none_of_le F.above⟩
    · exact nomatch hp
theorem land_on {h₀ : Heap} {L e : Addr} {m : Str → Option Value} {X : String} {news : List (Addr × Obj)} {fl : Value} {s' : Shared} (H : TT.HeldNA h₀ L s'.heap m e X news fl) {M : Model} {A : Around} {E : Value → Shared → Prop} {Q : Unit → Shared → Prop} (k : ∀ h', TT.HeldN h₀ L h' m e X news → Q () { s' with heap := h' }) :
    wpAny M A (setFlight (.ref e) (some L)) Q E s' := by
  obtain ⟨⟨F, ⟨ob, vs, tb, otb, tvs, he, hcls, hd, h1, htb, htd, h3, htbL, htbe, htb0⟩, hf⟩, N, hap⟩ := H
  have hsz : 3 < tvs.size := (Array.getElem?_eq_some_iff.mp h3).1
  have happ := hap ob vs tb he hd h1
  obtain ⟨oL, esL, epL, hL, hLd, hLk, hLf⟩ := F.ns
  have he' := (Heap.get?_update_ne s'.heap _ _ (Obj.mapFields (·.setIfInBounds 3 (rawInt L))) htbe.symm).trans he
  have F' : Fr h₀ L (s'.heap.update tb (Obj.mapFields (·.setIfInBounds 3 (rawInt L)))) m :=
    ⟨⟨oL, esL, epL, (Heap.get?_update_ne _ _ _ _ htbL.symm).trans hL, hLd, hLk, hLf⟩,
     fun b o hb => (Heap.get?_update_ne _ _ _ _ (fun q => by rw [q, htb0] at hb; cases hb)).trans (F.keep b o hb), F.above⟩
  unfold setFlight
  refine wpAny_bind (wpAny_field he hd h1 ?_)
  rw [if_pos (show (Value.ref tb != Value.none) = true from by simp)]
  show wpAny M A (setField (.ref tb) 3 (rawInt L)) Q E s'
  refine wpAny_setField htb htd hsz (k _ ⟨⟨F', ⟨ob, vs, tb, _, _, he', hcls, hd, h1,
    Heap.get?_update_self _ htb (Obj.isFreed_of_fields (Obj.data_mapFields htd _)), Obj.data_mapFields htd _, by simp [Array.getElem?_setIfInBounds, hsz], htbL, htbe, htb0⟩, hf⟩,
    fun p hp => ⟨(Heap.get?_update_ne _ _ _ _ (happ p hp)).trans (N p hp).1, (N p hp).2⟩, ?_⟩)
  intro ob' vs' tb' e1 e2 e3 p hp
  rw [he'] at e1
  obtain rfl := Option.some.inj e1
  exact hap ob vs' tb' he e2 e3 p hp
theorem came_on {h₀ : Heap} {L e : Addr} {m : Str → Option Value} {X : String} {news : List (Addr × Obj)} {fl : Value} {s' : Shared} {env : Env} (hf : env.frame = some L) (H : TT.HeldNA h₀ L s'.heap m e X news fl) {M : Model} {A : Around} {E : Value → Shared → Prop} (k : ∀ h', TT.HeldN h₀ L h' m e X news → E (.ref e) { s' with heap := h' }) :
    cameBackBy M A env E (.ref e) s' := by
  obtain ⟨ob, vs, tb, otb, tvs, he, hcls, hd, h1, _⟩ := H.held.there
  unfold cameBackBy
  rw [hf]
  refine wpAny_bind (wpAny_field he hd h1 ?_)
  rw [if_neg (show ¬ ((Value.ref tb == Value.none) = true) from by simp)]
  first
    | exact wpAny_bind (wpAny_pure (land_on H k))
    | exact land_on H k
theorem noted_on {h₀ : Heap} {L e : Addr} {m : Str → Option Value} {X : String} {news : List (Addr × Obj)} {s' : Shared} {env : Env} (hf : env.frame = some L) (H : TT.HeldN h₀ L s'.heap m e X news) {M : Model} {A : Around} {E : Value → Shared → Prop} {Q : Unit → Shared → Prop} (k : Q () s') :
    wpAny M A (noteFrame (.ref e) env) Q E s' := by
  obtain ⟨ob, vs, tb, otb, tvs, he, hcls, hd, h1, htb, htd, h3, _⟩ := H.held.there
  unfold noteFrame
  simp only [hf]
  refine wpAny_bind (wpAny_field he hd h1 ?_)
  rw [if_pos (show (Value.ref tb != Value.none) = true from by simp)]
  refine wpAny_bind (wpAny_field htb htd h3 ?_)
  rw [if_pos (show (rawInt L == rawInt L) = true from by simp)]
  exact wpAny_pure k
theorem clause_K {h₀ : Heap} {L a e : Addr} {m : Str → Option Value} {X : String} {news : List (Addr × Obj)} {s' : Shared} {fl : Value} {K : Frag} {p : Program} {loose : List Str} {mean : ExcName → Option Value} {mg mb : Str → Option Value} {x : Str} {T' : String} {prog : Program} {w : World} {A₀ : Around} {E : Value → Shared → Prop} {name : Str} {scope : Scope} {cd : Value} {b₀ : Stmt} {suite : List Stmt} {pos np : Pos} {rest : List ExceptHandler} {Q : Flow → Shared → Prop}
    (H : TT.HeldNA h₀ L s'.heap m e X news fl) (X₀ : K.In h₀) (T : Top p loose mean mg mb h₀)
    (ex : nsIn K mainGlobals x = some none) (hv : bootBuiltins x = some (.type T')) (hn' : x ≠ "__name__")
    (h1 : subB T' (.type "BaseException") = some true) (h2 : subB ((Manifest.find? T').elim "type" fun y => y.metatype) (.type "tuple") = some false) (h3 : subB X (.type T') = some true)
    (k : ∀ h', Fr h₀ L h' m → News h₀ L h' news → wpAny (model prog w) ((A₀.deeper (envOf name scope L a cd)).mark (some (.ref e))) (execs (b₀ :: suite) (envOf name scope L a cd)) Q E { s' with heap := h' })
    (hk : scope.kind = .function := by rfl) (hx : (envOf name scope L a cd).kindOf x = some .globalImplicit := by rfl) (hd : (x == ("__debug__" : Str)) = false := by decide)
    (hE : PassesOwnAt (model prog w) ((A₀.deeper (envOf name scope L a cd)).mark (some (.ref e))) (A₀.deeper (envOf name scope L a cd)) (envOf name scope L a cd) E := by passes_own) :
    wpAny (model prog w) (A₀.deeper (envOf name scope L a cd)) (handleBy (.ref e) (envOf name scope L a cd) (.ExceptHandler (some (.Name x np)) none (b₀ :: suite) pos :: rest)) Q E s' := by
  refine wpAny_handleBy_builtin (X := X) (T := T') (b := true) (isSubtype_of_subB h1) (isSubtype_of_subB h2) (isSubtype_of_subB h3) (name_B H.held.fr X₀ (topRead_of T) ex hv hn' ⟨rfl, H.isA, ?_⟩ hk hx hd)
  rw [if_pos rfl]
  exact H.lands fun h' F' N' => wpAny_passesOwnAt hE (k h' F' N')
theorem inc_le {ys : List Int} (hinc : ∀ k, k + 1 < ys.length → ys.getD k 0 < ys.getD (k + 1) 0) (a : Nat) : ∀ d, a + d < ys.length → ys.getD a 0 ≤ ys.getD (a + d) 0
  | 0, _ => Int.le_refl _
  | d + 1, h => Int.le_trans (inc_le hinc a d (by omega)) (Int.le_of_lt (hinc (a + d) h))
theorem mem_at {ys : List Int} {x : Int} (h : x ∈ ys) : ∃ k, k < ys.length ∧ ys.getD k 0 = x := by
  obtain ⟨k, hk, e⟩ := List.mem_iff_getElem.mp h
  exact ⟨k, hk, by rw [List.getD_eq_getElem?_getD, List.getElem?_eq_getElem hk]; exact e⟩
theorem at_mem {ys : List Int} {k : Nat} (h : k < ys.length) : ys.getD k 0 ∈ ys := by
  rw [List.getD_eq_getElem?_getD, List.getElem?_eq_getElem h]; exact List.getElem_mem h
theorem sld_out {ys : List Int} {i j : Nat} (hinc : ∀ k, k + 1 < ys.length → ys.getD k 0 < ys.getD (k + 1) 0) (p4 : ∀ k, k < j → ys.getD k 0 < (i : Int)) (h : ∀ k, k = j → k < ys.length → (i : Int) < ys.getD k 0) : (i : Int) ∉ ys := by
  intro hm
  obtain ⟨k, hk, e⟩ := mem_at hm
  rcases Nat.lt_or_ge k j with hl | hg
  · have := p4 k hl; omega
  · have h1 := inc_le hinc j (k - j) (by omega)
    rw [show j + (k - j) = k by omega] at h1
    have := h j rfl (by omega)
    omega
theorem ranges_snoc (i : Nat) : rangeKs 0 (i + 1) = rangeKs 0 i ++ [(i : Int)] := by
  simp [rangeKs, List.range_succ]
theorem sld_snoc_out {ys : List Int} {i : Nat} (h : (i : Int) ∉ ys) : (rangeKs 0 (i + 1)).filter (fun x => decide (x ∉ ys)) = (rangeKs 0 i).filter (fun x => decide (x ∉ ys)) ++ [(i : Int)] := by
  rw [ranges_snoc, List.filter_append]
  simp [h]
theorem sld_snoc_in {ys : List Int} {i : Nat} (h : (i : Int) ∈ ys) : (rangeKs 0 (i + 1)).filter (fun x => decide (x ∉ ys)) = (rangeKs 0 i).filter (fun x => decide (x ∉ ys)) := by
  rw [ranges_snoc, List.filter_append]
  simp [h]
theorem sld_end {ys : List Int} {i N0 : Nat} (hi : (i : Int) ∈ ys) (hle : ∀ k, k < ys.length → ys.getD k 0 ≤ (i : Int)) (hN : i + 1 ≤ N0) :
    (rangeKs 0 N0).filter (fun x => decide (x ∉ ys)) = (rangeKs 0 i).filter (fun x => decide (x ∉ ys)) ++ (rangeKs 0 N0).drop ((i : Int) + 1).toNat := by
  rw [show ((i : Int) + 1).toNat = i + 1 by omega]
  conv => lhs; rw [← List.take_append_drop (i + 1) (rangeKs 0 N0)]
  rw [List.filter_append]
  congr 1
  · rw [show (rangeKs 0 N0).take (i + 1) = rangeKs 0 (i + 1) by
      simp only [rangeKs, ← List.map_take, List.take_range]
      rw [Nat.min_eq_left hN]]
    exact sld_snoc_in hi
  · rw [List.filter_eq_self]
    intro x hx
    simp only [decide_eq_true_eq]
    intro hm
    obtain ⟨k, hk, e⟩ := mem_at hm
    have h1 := hle k hk
    obtain ⟨z, hz, e2⟩ := List.mem_iff_getElem.mp hx
    simp only [rangeKs, List.getElem_drop, List.getElem_map, List.getElem_range] at e2
    omega
theorem nat_down {a b : Nat} (h : a + 1 < b) : b - (a + 1) < b - a := by omega
theorem sld_c (w : World) {Xa Ya : Addr} {us vs : List Value} {xs ys : List Int} {a0 b0 N0 : Nat} {rest : List (Addr × Obj)} (hx : IntsAre us xs) (hy : IntsAre vs ys) (hxs : xs = rangeKs 0 N0) (hN : N0 ≤ 20) (hyl : 0 < ys.length) (hyl2 : ys.length ≤ 20)
    (hyb : ∀ k, k < ys.length → 0 ≤ ys.getD k 0 ∧ ys.getD k 0 + 1 < N0) (hinc : ∀ k, k + 1 < ys.length → ys.getD k 0 < ys.getD (k + 1) 0) :
    CtrL w 10 106 [.ref Xa, .ref Ya] ((Xa, listOf us.toArray a0) :: (Ya, listOf vs.toArray b0) :: rest) (fun r news' => ∃ T U M ms c, r = .ref T ∧ news' = (T, tupOf [.ref M, .ref U]) :: (U, listOf #[] 0) :: (M, listOf ms.toArray c) :: (Xa, listOf us.toArray a0) :: (Ya, listOf vs.toArray b0) :: rest ∧ IntsAre ms (xs.filter (fun x => decide (x ∉ ys)))) := by
  k_with_none
  w_top off
  have hkf := kfill w
  (revert hkf; k_fill; intro hkf)
  clear hkf
  refine CtrL.mk ?_
  k_with "call ref" => (refine unhold ?_)
  k_with "exec While Constant cons nil" => (refine unhold ?_)
  k_with "exec While Compare cons nil" => (refine unhold ?_)
  have hMark := kstMark
  intro p_ loose mean mg mb dp un gd cn cs a ccd cl h₀ L m s Q E F X N T hk hdp hun hret
  refine wpAny_call ?_
  k_dflt (refine' code_defL ?k1 ?k2 ?k3 ?k4 ?k6 ?k7 ?k8 ?k9 ?kB ?kC ?_ ?c2 ?c3 ?c4 ?c5; (case kC => assumption); (case k1 => k_asm); (case k2 => k_asm); (case k3 => k_asm); (case k4 => k_asm); (case k6 => k_is); (case k7 => k_is); (case k8 => omega); (case k9 => exact BindsTo.of_eq rfl); (case c5 => decide); (case kB => exact locs rfl); (case c2 => exact rfl); (case c3 => exact rfl); (case c4 => exact rfl); k_whole)
  intro oL h1 L1 hC hFs hne F1 N1
  clear F N
  (try simp only [List.cons_append, List.nil_append] at N1)
  (try dsimp only)
  (try k_fold)
  try k_fold
  k_steps
  (rename Fr _ _ _ _ => F9); (rename News _ _ _ _ => N9)
  rename_i Ma _ l1 _ _ Ua _ l2 _
  have hMaL : @LT.lt Nat _ L Ma := kst_ltOf l1.2.2 (L, oL) (by simp)
  have hUaL : @LT.lt Nat _ L Ua := kst_ltOf l2.2.2.2 (L, oL) (by simp)
  refine Hold.intro ?_
  refine' ksw_while (σ := List Value × List Int × Nat × Nat × Tok × Nat × Tok) (fun c => (Ua, listOf #[] 0) :: (Ma, listOf c.1.toArray c.2.2.1) :: (Xa, listOf us.toArray a0) :: (Ya, listOf vs.toArray b0) :: (rest ++ [(L, oL)])) (fun c => [(Str.ofString "i", .int (c.2.2.2.1 : Nat) c.2.2.2.2.1), (Str.ofString "j", .int (c.2.2.2.2.2.1 : Nat) c.2.2.2.2.2.2)])
    (fun c => IntsAre c.1 c.2.1) [Str.ofString "e", Str.ofString "a"]
    (fun c => c.2.2.2.2.2.1 < ys.length ∧ (c.2.2.2.1 : Int) ≤ ys.getD c.2.2.2.2.2.1 0 ∧ c.2.1 = (rangeKs 0 c.2.2.2.1).filter (fun x => decide (x ∉ ys)) ∧ (∀ k, k < c.2.2.2.2.2.1 → ys.getD k 0 < (c.2.2.2.1 : Int)))
    (fun c => N0 - c.2.2.2.1) ([], [], 0, 0, _, 0, _) F9 N9 .nil (by kst_all) ⟨hyl, (hyb 0 hyl).1, rfl, fun _ h => absurd h (Nat.not_lt_zero _)⟩ ?_ ?_
  · rintro ⟨ms, ml, k1, i, ti, j, tj⟩ u h tk2 hi1 ⟨p1, p2, p3, p4⟩ F2 N2
    clear F9 N9
    try dsimp only at hi1 p1 p2 p3 p4 F2 N2
    try dsimp only [kstB] at F2
    have hb := hyb j p1
    have hiN : i + 1 < N0 := by omega
    have hxl : xs.length = N0 := by rw [hxs, rangeKs_length]
    have hxi : ∀ z : Nat, z < N0 → xs.getD z 0 = (z : Int) := by
      intro z hz
      rw [hxs, List.getD_eq_getElem?_getD]
      simp [rangeKs, hz]
    have e1 : xs.getD (i : Int).toNat 0 = (i : Int) := hxi i (by omega)
    have e2 : xs.getD ((i : Int) + 1).toNat 0 = (i : Int) + 1 := (by rw [show ((i : Int) + 1).toNat = i + 1 by omega, hxi (i + 1) hiN]; rfl)
    have f1 : ys.getD (j : Int).toNat 0 = ys.getD j 0 := rfl
    have f2 : ys.getD ((j : Int) + 1).toNat 0 = ys.getD (j + 1) 0 := (by rw [show ((j : Int) + 1).toNat = j + 1 by omega])
    have hul := hx.length
    have hvl := hy.length
    have hml : ml.length ≤ 20 := by rw [p3]; refine Nat.le_trans (List.length_filter_le _ _) ?_; rw [rangeKs_length]; omega
    try k_fold
    by_cases hlt : (i : Int) < ys.getD j 0
    · k_steps
      refine Hold.intro (While_no ?_ (by with_unfolding_all passes_own))
      try k_fold
      k_steps
      (rename Fr _ _ _ _ => F3); (rename News _ _ _ _ => N3)
      have hout : (i : Int) ∉ ys := sld_out hinc p4 (fun k e _ => by subst e; exact hlt)
      refine Hold.intro (ksw_end ⟨_, ml ++ [xs.getD (i : Int).toNat 0], _, i + 1, _, j, _⟩ F3 N3 (fun _ h => h) (by simpa using hi1.append (.cons (xs.getD (i : Int).toNat 0) _ .nil)) (by kst_all) (by ksw_same) ?_ ?_)
      · dsimp only
        refine ⟨p1, by omega, ?_, fun k hk => by have := p4 k hk; omega⟩
        rw [e1, p3]
        exact (sld_snoc_out hout).symm
      · dsimp only
        first | exact nat_down hiN | omega
    · have heq : ys.getD j 0 = (i : Int) := by omega
      by_cases hj : j + 1 < ys.length
      · have hjn := hinc j hj
        try k_fold
        k_steps
        refine Hold.intro (While_no ?_ (by with_unfolding_all passes_own))
        try k_fold
        k_steps
        refine Hold.intro (While_no ?_ (by with_unfolding_all passes_own))
        try k_fold
        k_steps
        (rename Fr _ _ _ _ => F3); (rename News _ _ _ _ => N3)
        have hin : (i : Int) ∈ ys := heq ▸ at_mem p1
        refine Hold.intro (ksw_end ⟨_, ml, _, i + 1, _, j + 1, _⟩ F3 N3 (fun _ h => h) hi1 (by kst_all) (by ksw_same) ?_ ?_)
        · dsimp only
          refine ⟨hj, by omega, ?_, fun k hk => ?_⟩
          · rw [p3]
            exact (sld_snoc_in hin).symm
          · rcases Nat.lt_or_ge k j with hl | hg
            · have := p4 k hl; omega
            · rw [show k = j by omega]; omega
        · dsimp only
          first | exact nat_down hiN | omega
      · k_steps
        refine Hold.intro (While_no ?_ (by with_unfolding_all passes_own))
        try k_fold
        k_steps
        refine Hold.intro (While_no ?_ (by with_unfolding_all passes_own))
        try k_fold
        k_steps
        unfold notedBy
        rename Heap.NewExc _ _ _ _ => tiX'
        (rename Fr _ _ _ _ => F8); (rename News _ _ _ _ => N8)
        refine TLg.noted_new1 (new := (Ua, listOf #[] 0) :: (Ma, listOf ms.toArray k1) :: (Xa, listOf us.toArray a0) :: (Ya, listOf vs.toArray b0) :: rest) (by rfl) hFs.out tiX' F8 N8 ?_ ?_
        · exact TLgL.allNe_of (by
            intro q hq
            simp only [List.mem_cons] at hq
            rcases hq with rfl | rfl | rfl | rfl | hq
            · exact Nat.ne_of_gt hUaL
            · exact Nat.ne_of_gt hMaL
            · exact hne.out _ (by simp)
            · exact hne.out _ (by simp)
            · exact hne.out _ (by simp [hq]))
        · intro h' sl' tiF' tiH'
          obtain ⟨oL2, hoL2⟩ : ∃ o, o = ({ oL with slots := sl' } : Obj) := ⟨_, rfl⟩
          rw [← hoL2] at tiH'
          have hrM : ∀ q ∈ rest ++ [(L, oL2)], q.1 ≠ Ma := by
            intro q hq
            rcases List.mem_append.mp hq with hq | hq
            · exact Nat.ne_of_lt (kst_ltOf l1.2.2 q (by simp [hq]))
            · rw [List.mem_singleton.mp hq]; exact Nat.ne_of_lt hMaL
          have hrU : ∀ q ∈ rest ++ [(L, oL2)], q.1 ≠ Ua := by
            intro q hq
            rcases List.mem_append.mp hq with hq | hq
            · exact Nat.ne_of_lt (kst_ltOf l2.2.2.2 q (by simp [hq]))
            · rw [List.mem_singleton.mp hq]; exact Nat.ne_of_lt hUaL
          (try simp only [List.nil_append, List.cons_append] at tiH')
          refine came_on rfl tiH' ?_
          clear tiH'
          intro h' tiH'
          refine noted_on rfl tiH' ?_
          have tiHH' := TT.HeldNA.held tiH'
          try k_fold
          k_steps
          rename TT.HeldNA _ _ _ _ _ _ _ _ => ttN
          refine clause_K ttN (by k_asm) (by k_asm) (by k_is) (by boot_by_name) (by decide) (by decide +kernel) (by decide +kernel) (by decide +kernel) ?_ (hE := by with_unfolding_all passes_own)
          clear ttN
          intro h' F' N'
          try k_fold
          k_with "evalPart none" => (refine unhold ?_)
          try k_fold
          k_steps
          refine Hold.intro ?_
          k_with_none
          walk1
          walk1
          (rename Fr _ _ _ _ => F7); (rename News _ _ _ _ => N7)
          refine' kmk_slice_ints (ms := xs.drop ((i : Int) + 1).toNat) F7 N7 (News.isList N7 (by k_mem)) (by kmk_part) (by kmk_part) hx (kmk_from hx (by omega)) rfl ?_ (by with_unfolding_all rfl) (by kmk_pure) (kmk_sz hx (by rw [sizeLine_eq]; omega))
          intro D1 ws1 h' F' N' l1' hI' hC' hL'
          clear F7 N7
          k_lt l1'
          try k_fold
          have hdl : (xs.drop ((i : Int) + 1).toNat).length ≤ 20 := by rw [List.length_drop]; omega
          have hdl2 : (xs.drop ((i : Int) + 1).toNat).length ≠ 0 := by rw [List.length_drop]; omega
          have hwl := hI'.length
          have hmsl := hi1.length
          walk1
          try k_fold
          refine' kl_extend (its := ms.toArray) (its2 := ws1.toArray) (l := ms ++ ws1) F' N' (by k_mem) (by simp) (by rw [show ws1.toArray.toList = ws1 from rfl, hwl]; exact hdl2) (by k_upd) (by simp [Builtin.List.listTooLong, sizeLine_eq]; intros; omega) (by rw [sizeLine_eq]; simp; omega) (by rw [sizeLine_eq]; simp; omega) ?_
          clear F' N'
          intro h' F' N'
          (try dsimp only at N')
          have hIM := hi1.append hI'
          clear hI' hC' hL' hwl
          k_with "evalPart none" => (refine unhold ?_)
          try k_fold
          k_steps
          refine Hold.intro ?_
          k_with_none
          walk1
          walk1
          (rename Fr _ _ _ _ => F7); (rename News _ _ _ _ => N7)
          refine' kmk_slice_ints (ms := ys.drop ((j : Int) + 1).toNat) F7 N7 (News.isList N7 (by k_mem)) (by kmk_part) (by kmk_part) hy (kmk_from hy (by omega)) rfl ?_ (by with_unfolding_all rfl) (by kmk_pure) (kmk_sz hy (by rw [sizeLine_eq]; omega))
          intro D' ws' h' F' N' l1' hI' hC' hL'
          clear F7 N7
          k_lt l1'
          try k_fold
          have hwn : ws' = [] := by
            refine List.length_eq_zero_iff.mp ?_
            rw [hI'.length, List.length_drop]; omega
          walk1
          try k_fold
          refine' kxn_extend (its := #[]) (its2 := ws'.toArray) F' N' (by k_mem) (by rw [hwn]) (by k_upd) (by simp) (by rw [sizeLine_eq]; simp) (by rw [sizeLine_eq]; simp [hwn]) ?_
          clear F' N'
          intro h' F' N'
          (try dsimp only at N')
          k_with "LeaveI" => (refine unhold ?_)
          try k_fold
          k_steps
          (rename Fr _ _ _ _ => F6); (rename News _ _ _ _ => N6)
          rename_i T9 _ l9
          refine Hold.intro (show TI.LeaveI _ (Hold _) from TLg.leave_back (oL := oL) (m := m) (sl := sl') (new := (T9, tupOf [.ref Ma, .ref Ua]) :: (Ua, listOf #[] 0) :: (Ma, listOf (ms ++ ws1).toArray (k1 + 1)) :: (Xa, listOf us.toArray a0) :: (Ya, listOf vs.toArray b0) :: rest) hC.out F6 (kst_newsOf N6 (by rw [← hoL2]; kst_inAny)) ?_ ?_)
          · exact TLgL.allNe_of (by
              intro q hq
              simp only [List.mem_cons] at hq
              rcases hq with rfl | rfl | rfl | rfl | rfl | hq
              · exact Nat.ne_of_gt (Nat.lt_trans hUaL l9.2.2.1)
              · exact Nat.ne_of_gt hUaL
              · exact Nat.ne_of_gt hMaL
              · exact hne.out _ (by simp)
              · exact hne.out _ (by simp)
              · exact hne.out _ (by simp [hq]))
          · intro F7 N7
            refine hret _ _ _ _ F7 N7 ⟨T9, Ua, Ma, _, _, rfl, rfl, ?_⟩
            have hin : (i : Int) ∈ ys := heq ▸ at_mem p1
            rw [hxs, sld_end hin (fun k hk => ?_) (by omega : i + 1 ≤ N0), ← p3, ← hxs]
            · exact hIM
            · have h1 := inc_le hinc k (j - k) (by omega)
              rw [show k + (j - k) = j by omega] at h1
              omega
  · passes_own
end
section
section
variable {prog : Program} {w : World} {A : Around} {E : Value → Shared → Prop} {s : Shared} {env : Env} {h₀ : Heap}
noncomputable def EnumEnd (h₀ : Heap) (L : Addr) (own : List (Addr × Obj)) (Jn : (Str → Option Value) → List (Addr × Obj) → Prop) (s₁ s₂ : Shared) : Prop :=
  ∃ h' tk m' news', s₂ = { s₁ with heap := h', toks := tk } ∧ Fr h₀ L h' m' ∧ News h₀ L h' (own ++ news') ∧ (∀ p ∈ news', ∀ q ∈ own, p.1 ≠ q.1) ∧ Jn m' news'
noncomputable def EnumPost (h₀ : Heap) (L : Addr) (own : List (Addr × Obj)) (Jn : (Str → Option Value) → List (Addr × Obj) → Prop) (s₁ : Shared) (Q : Flow → Shared → Prop) (f : Flow) (s₂ : Shared) : Prop :=
  match f with
  | .ret v => Q (.ret v) s₂
  | .brk => Q .next s₂
  | .cont => Hold (EnumEnd h₀ L own Jn s₁ s₂)
  | .next => Hold (EnumEnd h₀ L own Jn s₁ s₂)
noncomputable def EnumAt (prog : Program) (w : World) (A : Around) (env : Env) (target : PySem.Expr) (body : List Stmt) (Q : Flow → Shared → Prop) (E : Value → Shared → Prop) (it : Value) (s₂ : Shared) : Prop :=
  codeAny (model prog w) A (.forLoop target it body [] env) (fun r s' => match r with | .ok f => Q f s' | .error e => cameBackBy (model prog w) A env E e s') s₂
theorem For_enum {target iter : PySem.Expr} {pos : Pos} {body : List Stmt} {Q : Flow → Shared → Prop}
    (h : wpAny (model prog w) A (eval iter env) (fun xv s₁ => wpAny (model prog w) A (pyIter xv) (fun it s₂ => EnumAt prog w A env target body Q E it s₂) E s₁) E s)
    (hs : ∀ x, foldedSetIterable iter env x = pure x := by intro _; rfl) :
    wpAny (model prog w) A (exec (.For target iter body [] pos) env) Q E s := wpAny_For h hs
theorem enum_go {xi xv : Str} {pi pv pt : Pos} {x1} {body : List Stmt} {Q : Flow → Shared → Prop} {l : Addr} {m : Str → Option Value} {news : List (Addr × Obj)} {n : Nat} (J : Nat → (Str → Option Value) → List (Addr × Obj) → Prop)
    (hh : A.handled = none) (hxi : env.kindOf xi = some .local) (hxv : env.kindOf xv = some .local)
    (hp : (env.scope.kind == .class || (env.scope.kind == .module && env.locals != env.globals)) = false)
    (F : Fr h₀ env.locals s.heap m) (N : News h₀ env.locals s.heap news) (hj : J 0 m news)
    (look : ∀ i m₁ news₁, J i m₁ news₁ → ∃ its k, (l, listOf its k) ∈ news₁ ∧ its.size = n)
    (turn : ∀ i t v m₁ news₁ h tk own, i < n → J i m₁ news₁ → (∀ its k, (l, listOf its k) ∈ news₁ → its[i]? = some v) → (∀ q ∈ own, ∀ p ∈ news, @LT.lt Nat _ p.1 q.1) → (∀ p ∈ news₁, ∀ q ∈ own, p.1 ≠ q.1) →
      Fr h₀ env.locals h (fun y => if y = xv then some v else if y = xi then some (.int (i : Nat) t) else m₁ y) → News h₀ env.locals h (own ++ news₁) →
      wpAny (model prog w) A (execs body env) (EnumPost h₀ env.locals own (J (i + 1)) { s with heap := h, toks := tk } Q) E { s with heap := h, toks := tk })
    (done : ∀ m₁ news₁ h tk, J n m₁ news₁ → Fr h₀ env.locals h m₁ → News h₀ env.locals h news₁ → Q .next { s with heap := h, toks := tk })
    (hE : PassesOwn (model prog w) A env E) :
    wpAny (model prog w) A (call (.type "enumerate") [.ref l]) (fun xv' s₁ => wpAny (model prog w) A (pyIter xv') (fun it s₂ => EnumAt prog w A env (.Tuple [.Name xi pi, .Name xv pv] x1 pt) body Q E it s₂) E s₁) E s := by
  obtain ⟨its0, k0, hm0, hn0⟩ := look 0 m news hj
  refine call_enumerate_list (items := its0) ⟨_, (N _ hm0).1, rfl, _, rfl⟩ fun h' he hit hz hk => ?_
  refine wpAny_pyIter_enum he ?_
  obtain ⟨e, hee⟩ : ∃ e, e = s.heap.objs.size + 1 := ⟨_, rfl⟩
  obtain ⟨itr, hie⟩ : ∃ e, e = s.heap.objs.size := ⟨_, rfl⟩
  rw [← hee, ← hie] at he
  rw [← hie] at hit
  rw [← hee]
  have hei : e ≠ itr := by rw [hee, hie]; exact Nat.succ_ne_self _
  have hLlt : env.locals < s.heap.objs.size := F.ns.lt
  have heL : e ≠ env.locals := by rw [hee]; exact Nat.ne_of_gt (Nat.lt_succ_of_lt hLlt)
  have hiL : itr ≠ env.locals := by rw [hie]; exact Nat.ne_of_gt hLlt
  have h0z : h₀.objs.size ≤ s.heap.objs.size := Nat.le_trans F.above (Nat.le_of_lt hLlt)
  have he0 : h₀.get? e = none := Heap.get?_none_of_le (by rw [hee]; exact Nat.le_succ_of_le h0z)
  have hi0 : h₀.get? itr = none := Heap.get?_none_of_le (by rw [hie]; exact h0z)
  have hlt0 : ∀ p ∈ news, @LT.lt Nat _ p.1 itr := fun p hp => by rw [hie]; exact Heap.lt_size (N p hp).1
  have hlte : ∀ p ∈ news, @LT.lt Nat _ p.1 e := fun p hp => by rw [hee]; exact Nat.lt_succ_of_lt (Heap.lt_size (N p hp).1)
  unfold EnumAt
  refine codeAny_forLoop_any
    (fun k s' => ∃ H tk m' news' i old, s' = { s with heap := H, toks := tk } ∧ IsEnum H e itr ((i : Nat) : Int) old ∧ H.IsListIter itr l i ∧ Fr h₀ env.locals H m' ∧ News h₀ env.locals H news' ∧ (∀ p ∈ news', p.1 ≠ e ∧ p.1 ≠ itr) ∧ J i m' news' ∧ i ≤ n ∧ k = n + 1 - i) ?_ (n + 1)
    ⟨h', _, m, news, 0, .none, rfl, he, hit, ⟨F.ns.at fun o x => hk _ _ x, fun b o x => hk b o (F.keep b o x), F.above⟩, fun p hp => ⟨hk _ _ (N p hp).1, (N p hp).2⟩, fun p hp => ⟨Nat.ne_of_lt (hlte p hp), Nat.ne_of_lt (hlt0 p hp)⟩, hj, Nat.zero_le _, rfl⟩
  rintro k s' ⟨H, tk, m', news', i, old, rfl, he', hit', F', N', hne', hJ, hi, rfl⟩
  obtain ⟨its, k1, hm1, hn1⟩ := look i m' news' hJ
  have hl' : H.IsList l its := ⟨_, (N' _ hm1).1, rfl, _, rfl⟩
  have old0 : ∀ b o, h₀.get? b = some o → b ≠ env.locals ∧ b ≠ e ∧ b ≠ itr := fun b o x =>
    ⟨Nat.ne_of_lt (Nat.lt_of_lt_of_le (Heap.lt_size x) F.above), fun q => (by rw [q, he0] at x; cases x), fun q => (by rw [q, hi0] at x; cases x)⟩
  cases hv : its[i]? with
  | none =>
    have hsz : i = n := by
      have : its.size ≤ i := by simpa using hv
      omega
    refine wpAny_pyNext_enum_end hh he' hit' hl' hv fun h₁ he₁ => wpAny_execs_nil ?_
    exact done m' news' h₁ tk (hsz ▸ hJ) ⟨F'.ns.extBut he₁ (Ne.symm hiL), fun b o x => he₁ b o (old0 b o x).2.2 (F'.keep b o x), F'.above⟩ fun p hp => ⟨he₁ _ _ (hne' p hp).2 (N' p hp).1, (N' p hp).2⟩
  | some v =>
    have hlt : i < n := by rw [← hn1]; exact (Array.getElem?_eq_some_iff.mp hv).1
    have heH : e < H.objs.size := Heap.lt_size he'
    have hLH : env.locals < H.objs.size := F'.ns.lt
    obtain ⟨oi, hoi, _⟩ := id hit'
    have hiH : itr < H.objs.size := Heap.lt_size hoi
    refine wpAny_pyNext_enum_item he' hit' hl' hv hei fun h₁ heo hit₁ ht₁ hz₁ hk₁ => ?_
    refine wpAny_letOwnedTupleGo_enum heo fun h₂ he₂ hs₂ => ?_
    replace hs₂ : Heap.SameBut e h₁ h₂ := hs₂
    have ht₂ : h₂.IsTuple H.objs.size #[.int i tk, v] := ⟨_, (hs₂.2 _ (Nat.ne_of_gt heH)).trans ht₁, rfl, _, rfl⟩
    have hz₂ : h₂.objs.size = H.objs.size + 1 := hs₂.1.trans hz₁
    refine wpAny_assign_Tuple hh ht₂ rfl rfl fun h₃ hx₃ => ?_
    replace hx₃ : Heap.ExtBut h₂.objs.size h₂ h₃ := hx₃
    have old₃ : ∀ b o, b < H.objs.size → h₂.get? b = some o → h₃.get? b = some o := fun b o hb x => hx₃ b o (by rw [hz₂]; exact Nat.ne_of_lt (Nat.lt_succ_of_lt hb)) x
    have hn₃ : h₃.Ns env.locals m' := (F'.ns.at fun o x => hk₁ _ o (Ne.symm heL) (Ne.symm hiL) x).sameBut hs₂ (Ne.symm heL) |>.at fun o x => old₃ _ o hLH x
    show wpAny _ A (do holding [v] (assign (.Name xi pi) env (.int i tk)); do holding [] (assign (.Name xv pv) env v); pure ()) _ _ _
    refine wpAny_bind (wpAny_holding (wpAny_assign_Name (wpAny_storeName_local hxi hn₃ (fun h₄ hn₄ hs₄ => ?_) hp)))
    replace hs₄ : Heap.SameBut env.locals h₃ h₄ := hs₄
    refine wpAny_bind (wpAny_holding (wpAny_assign_Name (wpAny_storeName_local hxv hn₄ (fun h₅ hn₅ hs₅ => wpAny_pure ?_) hp)))
    replace hs₅ : Heap.SameBut env.locals h₄ h₅ := hs₅
    have up : ∀ b o, b ≠ env.locals → b < H.objs.size → h₂.get? b = some o → h₅.get? b = some o := fun b o hbL hb x =>
      hs₅.extBut b o hbL (hs₄.extBut b o hbL (old₃ b o hb x))
    have up0 : ∀ b o, b ≠ env.locals → b ≠ e → b ≠ itr → H.get? b = some o → h₅.get? b = some o := fun b o hbL hbe hbi x =>
      up b o hbL (Heap.lt_size x) (hs₂.extBut b o hbe (hk₁ b o hbe hbi x))
    have he5 := up e _ heL heH he₂
    obtain ⟨oi5, hoi5, hoc5, hod5⟩ := (hit₁.extBut hs₂.extBut (Ne.symm hei)).at fun o x => up itr o hiL hiH x
    have F5 : Fr h₀ env.locals h₅ (fun y => if y = xv then some v else if y = xi then some (.int (i : Nat) tk) else m' y) :=
      ⟨hn₅, fun b o x => up0 b o (old0 b o x).1 (old0 b o x).2.1 (old0 b o x).2.2 (F'.keep b o x), F'.above⟩
    obtain ⟨ow, how⟩ : ∃ ow, ow = [(e, ({ cls := .type "enumerate", dict := none, data := .fields #[.none, .bool false, .ref itr, rawInt ((i : Int) + 1), .none, v], slots := #[] } : Obj)), (itr, oi5)] := ⟨_, rfl⟩
    have N5 : News h₀ env.locals h₅ (ow ++ news') := fun p hp => by
      rw [how] at hp
      rcases List.mem_append.mp hp with hp | hp
      · rcases List.mem_cons.mp hp with rfl | hp
        · exact ⟨he5, heL, he0⟩
        · rw [List.mem_singleton.mp hp]; exact ⟨hoi5, hiL, hi0⟩
      · exact ⟨up0 _ _ (N' p hp).2.1 (hne' p hp).1 (hne' p hp).2 (N' p hp).1, (N' p hp).2⟩
    refine wpAny_mono (wpAny_passesOwn hE (turn i tk v m' news' h₅ _ ow hlt hJ (fun its2 k2 h2 => ?_) (fun q hq p hp => ?_) (fun p hp q hq => ?_) F5 N5)) (fun f s₃ h₆ => ?_) fun _ _ x => x
    · have e1 := (N' _ h2).1
      have e2 := (N' _ hm1).1
      rw [e1] at e2
      have e3 := congrArg Obj.data (Option.some.inj e2)
      injection e3 with e3
      rw [e3]; exact hv
    · rw [how] at hq
      rcases List.mem_cons.mp hq with rfl | hq
      · exact hlte p hp
      · rw [List.mem_singleton.mp hq]; exact hlt0 p hp
    · rw [how] at hq
      rcases List.mem_cons.mp hq with rfl | hq
      · exact (hne' p hp).1
      · rw [List.mem_singleton.mp hq]; exact (hne' p hp).2
    · have fin : ∀ h7 t7, EnumEnd h₀ env.locals ow (J (i + 1)) { s with heap := h7, toks := t7 } s₃ → ∃ k', k' < n + 1 - i ∧ ∃ H tk m' news' i old, s₃ = { s with heap := H, toks := tk } ∧ IsEnum H e itr ((i : Nat) : Int) old ∧ H.IsListIter itr l i ∧ Fr h₀ env.locals H m' ∧ News h₀ env.locals H news' ∧ (∀ p ∈ news', p.1 ≠ e ∧ p.1 ≠ itr) ∧ J i m' news' ∧ i ≤ n ∧ k' = n + 1 - i := by
        rintro h7 t7 ⟨h6, tk6, m6, news6, e6, F6, N6, ne6, hJ6⟩
        rw [how] at N6 ne6
        refine ⟨n + 1 - (i + 1), by omega, h6, tk6, m6, news6, i + 1, v, e6, ?_, ⟨oi5, (N6 (itr, oi5) (by simp)).1, hoc5, hod5⟩, F6, News.right N6, fun p hp => ⟨ne6 p hp _ (List.mem_cons_self), ne6 p hp (itr, oi5) (List.mem_cons_of_mem _ (List.mem_cons_self))⟩, hJ6, hlt, rfl⟩
        have : ((i + 1 : Nat) : Int) = (i : Int) + 1 := by push_cast; rfl
        rw [this]; exact (N6 _ List.mem_cons_self).1
      cases f with
      | ret v => exact h₆
      | brk => exact h₆
      | cont => exact fin _ _ h₆.out
      | next => exact fin _ _ h₆.out
end
section
variable {prog : Program} {w : World} {A : Around} {E : Value → Shared → Prop} {s : Shared} {env : Env} {h₀ : Heap}
theorem enum_st {σ : Type} {xi xv : Str} {pi pv pt : Pos} {x1} {body : List Stmt} {Q : Flow → Shared → Prop} {l : Addr} {m₀ : Str → Option Value} {news : List (Addr × Obj)} {n : Nat}
    (Led : σ → List (Addr × Obj)) (cst : List (Addr × Obj)) (ps : σ → List (Str × Value)) (Facts : List (Addr × Obj) → σ → Prop) (stored : List Str) (P : Nat → σ → Prop) (adr : List Addr) (items : σ → Array Value) (c₀ : σ)
    (hh : A.handled = none) (hxi : env.kindOf xi = some .local) (hxv : env.kindOf xv = some .local)
    (hpp : (env.scope.kind == .class || (env.scope.kind == .module && env.locals != env.globals)) = false)
    (F : Fr h₀ env.locals s.heap m₀) (N : News h₀ env.locals s.heap news) (hn : ∀ p ∈ Led c₀ ++ (cst ++ []), p ∈ news) (hadr : ∀ c, (Led c ++ cst).map (·.1) = adr) (hf : Facts (cst ++ []) c₀) (hk : ∀ p ∈ ps c₀, m₀ p.1 = some p.2) (hp : P 0 c₀)
    (look : ∀ c, ∃ k, (l, listOf (items c) k) ∈ Led c) (hsz : ∀ i c, P i c → (items c).size = n)
    (turn : ∀ (c : σ) tl i t v (u : Str → Option Value) h tk own, i < n → (items c)[i]? = some v → KdSep own tl adr → OwnOff (tl ++ own) adr → Facts (cst ++ tl) c → P i c →
      Fr h₀ env.locals h (fun y => if y = xv then some v else if y = xi then some (.int (i : Nat) t) else kstB (fun z => if stored.contains z then u z else m₀ z) (ps c) y) → News h₀ env.locals h (Led c ++ (cst ++ (tl ++ own))) →
      wpAny (model prog w) A (execs body env) (EnumPost h₀ env.locals own (KdS Led cst ps Facts xi stored m₀ P adr (i + 1)) { s with heap := h, toks := tk } Q) E { s with heap := h, toks := tk })
    (done : ∀ (c : σ) tl (u : Str → Option Value) h tk, OwnOff tl adr → Facts (cst ++ tl) c → P n c → Fr h₀ env.locals h (fun y => if y = xi then u y else kstB (fun z => if stored.contains z then u z else m₀ z) (ps c) y) → News h₀ env.locals h (Led c ++ (cst ++ tl)) → Q .next { s with heap := h, toks := tk })
    (hE : PassesOwn (model prog w) A env E) :
    wpAny (model prog w) A (call (.type "enumerate") [.ref l]) (fun xv' s₁ => wpAny (model prog w) A (pyIter xv') (fun it s₂ => EnumAt prog w A env (.Tuple [.Name xi pi, .Name xv pv] x1 pt) body Q E it s₂) E s₁) E s := by
  refine enum_go (n := n) (news := Led c₀ ++ (cst ++ [])) (fun i m nx => KdS Led cst ps Facts xi stored m₀ P adr i m nx) hh hxi hxv hpp F (fun p hp => N p (hn p hp)) ⟨c₀, [], rfl, fun _ hp => (nomatch hp), hf, hk, fun _ _ _ _ => rfl, hp⟩ ?_ ?_ ?_ hE
  · rintro i m₁ nx ⟨c, tl, rfl, _, _, _, _, hp'⟩
    obtain ⟨k, hm⟩ := look c
    exact ⟨_, k, List.mem_append_left _ hm, hsz i c hp'⟩
  · rintro i t v m₁ nx h tk own hi ⟨c, tl, rfl, ht, hf', h1, h2, hp'⟩ hv _ hoff F₁ N₁
    obtain ⟨k, hm⟩ := look c
    obtain ⟨o1, o2⟩ := kd_split (hadr c) (own := own) (fun p hp b hb => by
      obtain ⟨q, hq, rfl⟩ := List.mem_map.mp hb
      exact (hoff q hq p hp).symm)
    refine turn c tl i t v m₁ h tk own hi (hv _ _ (List.mem_append_left _ hm)) ⟨o1, o2, ht⟩ (kd_off o1 ht) hf' hp' ?_ (fun p hp => N₁ p ?_)
    · have em : (fun y => if y = xv then some v else if y = xi then some (.int (i : Nat) t) else kstB (fun z => if stored.contains z then m₁ z else m₀ z) (ps c) y) = fun y => if y = xv then some v else if y = xi then some (.int (i : Nat) t) else m₁ y := by
        funext y
        by_cases hy : y = xv
        · rw [if_pos hy, if_pos hy]
        · rw [if_neg hy, if_neg hy]
          by_cases hy2 : y = xi
          · rw [if_pos hy2, if_pos hy2]
          · rw [if_neg hy2, if_neg hy2]
            exact kst_off h1 h2 hy2
      rw [em]
      exact F₁
    · simp only [List.mem_append] at hp ⊢
      rcases hp with hp | hp | hp | hp
      · exact .inr (.inl hp)
      · exact .inr (.inr (.inl hp))
      · exact .inr (.inr (.inr hp))
      · exact .inl hp
  · rintro m₁ nx h tk ⟨c, tl, rfl, ht, hf', h1, h2, hp'⟩ F₁ N₁
    exact done c tl m₁ h tk ht hf' hp' (kst_frOut h1 h2 F₁) N₁
theorem enum_end {σ τ : Type} {x : Str} {Led : σ → List (Addr × Obj)} {cst : List (Addr × Obj)} {ps : σ → List (Str × Value)} {Facts : List (Addr × Obj) → σ → Prop} {stored : List Str} {m₀ : Str → Option Value} {P : τ → σ → Prop} {adr : List Addr} {pre : τ} (c : σ) (add : List (Addr × Obj)) {tl : List (Addr × Obj)} {L : Addr} {m' : Str → Option Value} {own news' : List (Addr × Obj)} {s₁ : Shared} {h' : Heap} {tk : Nat}
    (h0 : KdSep own tl adr) (F : Fr h₀ L h' m') (N : News h₀ L h' news') (hn : ∀ p ∈ Led c ++ (cst ++ (add ++ tl)), p ∈ news') (ho : ∀ p ∈ own, p ∈ news') (hadr : (Led c ++ cst).map (·.1) = adr)
    (hb : ∀ q ∈ add, ∀ b ∈ adr, b ≠ q.1) (hw : ∀ q ∈ add, ∀ p ∈ own, p.1 ≠ q.1) (hk : ∀ p ∈ ps c, m' p.1 = some p.2) (hr : ∀ z, z ≠ x → (∀ p ∈ ps c, z ≠ p.1) → stored.contains z = false → m' z = m₀ z) (hf : Facts (cst ++ (add ++ tl)) c) (hp : P pre c) :
    EnumEnd h₀ L own (KdS Led cst ps Facts x stored m₀ P adr pre) s₁ { s₁ with heap := h', toks := tk } := by
  refine ⟨h', tk, m', Led c ++ (cst ++ (add ++ tl)), rfl, F, fun p hp => N p ?_, ?_, c, add ++ tl, rfl, ?_, hf, hk, hr, hp⟩
  · rcases List.mem_append.mp hp with hp | hp
    · exact ho p hp
    · exact hn p hp
  · intro p hp q hq
    exact (kd_whole hadr h0.one h0.two hw q hq p.1 (List.mem_map.mpr ⟨p, hp, rfl⟩)).symm
  · intro p hp b hb'
    rcases List.mem_append.mp hp with hp | hp
    · exact fun e => hb p hp b hb' e.symm
    · exact h0.three p hp b hb'
end
end
section
namespace OBF
open PySem.F
theorem slot_object_init : Slot "object" "__init__" "object.__init__" :=
  .of (owner := "object") (n := "__init__") (by rw [typeLookup_type, builtinLookup_eq_fast]; kernel_rfl) (by decide +kernel) (by decide +kernel) (by decide +kernel)
    (by first | exact .inl (by decide +kernel) | exact .inr (by decide +kernel)) (by rw [isSubtype_type]; kernel_rfl)
theorem mro_object : mroOf (.type "object") = pure [.type "object"] := by rw [mroOf_type]; kernel_rfl
theorem lookup_object_new : typeLookup (.type "object") "__new__" = pure (some (.builtin "object.__new__")) := by rw [typeLookup_type, builtinLookup_eq_fast]; kernel_rfl
theorem made_object : Bind.madeBy (.type "object") = pure (some "object.__new__") := madeBy_type mro_object lookup_object_new (by decide +kernel)
theorem called_object : TypeCalled "object" "object.__new__" "object.__init__" :=
  ⟨by decide +kernel, by decide +kernel, ⟨_, _, mro_object⟩, made_object, by decide +kernel, by rw [isSubtype_type]; kernel_rfl, slot_object_init⟩
theorem typeCall_object_0 : checkTypeCall "object" ⟨[], []⟩ = pure () := by kernel_rfl
theorem newCall_object_0 : checkBuiltinCall "object.__new__" ⟨[.type "object"], []⟩ = pure () := by kernel_rfl
theorem meets_object_new : Meets (Builtin.«object.__new__» ⟨[.type "object"], []⟩) (fun _ R s => R (.ok (.ret (.ref s.heap.objs.size))) { s with heap := s.heap.push { cls := .type "object", data := .plain } }) :=
  .of_wp fun prog w A R s h => by
    have hm := made_object
    obtain ⟨hp, g, d, tk, os⟩ := s
    wp_walk
    exact ⟨_, rfl, h⟩
theorem object_init_meets0 {self : Value} : Meets (Builtin.«object.__init__» ⟨[self], []⟩) (fun _ R s => R (.ok (.ret .none)) s) :=
  .of_wp fun prog w A R s h => wpAny_pure ⟨_, rfl, h⟩
end OBF
theorem call_object {prog : Program} {w : World} {A : Around} {E : Value → Shared → Prop} {s : Shared} {Q : Value → Shared → Prop}
    (h : Q (.ref s.heap.objs.size) { s with heap := s.heap.push { cls := .type "object", data := .plain } }) :
    wpAny (model prog w) A (call (.type "object") []) Q E s := by
  refine callType_meets (Q₁ := fun obj s₁ => s₁.TypeIs obj "object" ∧ Q obj s₁) OBF.called_object OBF.typeCall_object_0 OBF.newCall_object_0 F.entry_object_new F.entry_object_init OBF.meets_object_new ?_ ?_
  · exact ⟨⟨_, Heap.get?_push_size _ rfl, rfl⟩, h⟩
  · intro obj s₁ hq
    exact ⟨hq.1, (by exact F.args_object_init_1 _), _, OBF.object_init_meets0, rfl, hq.2⟩
abbrev objO : Obj := { cls := .type "object", data := .plain }
theorem object_K {prog : Program} {w : World} {A : Around} {E : Value → Shared → Prop} {s : Shared} {Q : Value → Shared → Prop} {h₀ : Heap} {L : Addr} {m : Str → Option Value} {news : List (Addr × Obj)} (F : Fr h₀ L s.heap m) (N : News h₀ L s.heap news)
    (h : ∀ D h', Fr h₀ L h' m → News h₀ L h' ((D, objO) :: news) → (∀ p ∈ news, p.1 < D) → Q (.ref D) { s with heap := h' }) : wpAny (model prog w) A (call (.type "object") []) Q E s := by
  refine call_object (h _ _ (F.push _) (fun p hp => ?_) fun p hp => Heap.lt_size (N p hp).1)
  rcases List.mem_cons.mp hp with rfl | hp
  · exact ⟨Heap.get?_push_size _ rfl, Nat.ne_of_gt F.ns.lt, Heap.get?_none_of_le (Nat.le_trans F.above (Nat.le_of_lt F.ns.lt))⟩
  · exact ⟨Heap.get?_push_of_some _ (N p hp).1, (N p hp).2⟩
theorem rc_eq_decline_sub {M : Model} {A : Around} {E : Value → Shared → Prop} {s : Shared} {a b : Value} {Ta Tb ida idb : String} {k : Bool} {Q : Value → Shared → Prop} (ha : s.TypeIs a Ta) (hb : s.TypeIs b Tb)
    (hne : (Value.type Ta != Value.type Tb) = true) (hsub : isSubtype (.type Tb) (.type Ta) = pure true) (h1 : Slot Ta (cmpInfo .Eq).2.1 ida) (h2 : Slot Tb (cmpInfo .Eq).2.2 idb)
    (hc1 : ∀ Q' : Value → Shared → Prop, Q' .notImplemented s → wpAny M A (call (.builtin ida) [a, b]) Q' E s)
    (hc2 : ∀ Q' : Value → Shared → Prop, Q' .notImplemented s → wpAny M A (call (.builtin idb) [b, a]) Q' E s)
    (hk : ∀ Q' : Bool → Shared → Prop, Q' k s → wpAny M A (isSame a b) Q' E s)
    (hr : [a, b].any Value.onHeap = false ∨ A.units < cLine) (h : Q (.bool k) s) : wpAny M A (richCompare .Eq a b) Q E s := by
  rcases hi : cmpInfo CmpOp.Eq with ⟨sym, f, r⟩
  rw [hi] at h1 h2
  simp only [richCompare, hi, ha.oneThing_none]
  try with_reducible refine wpAny_holding ?_
  refine wpAny_bind (wpAny_cRoomFor_or hr ?_)
  refine wpAny_bind (wpAny_typeOf ha (wpAny_bind (wpAny_typeOf hb ?_)))
  simp only [hne, if_true]
  refine wpAny_bind (wpAny_of_eq hsub ?_)
  simp only [Bool.false_eq_true, if_false, Bool.not_false, if_true, Bool.not_true]
  refine wpAny_bind (m := tryCompare b _ a) (wpAny_tryCompare_declines hb h2 (hc2 _ ⟨rfl, ?_⟩))
  refine wpAny_bind (m := tryCompare a _ b) (wpAny_tryCompare_declines ha h1 (hc1 _ ⟨rfl, ?_⟩))
  exact wpAny_bind (wpAny_rule (wpAny_bind (hk _ (wpAny_pure h))))
theorem int_eq_declines_obj (b : Int) (u : Tok) (l : Addr) : Meets (Builtin.«int.__eq__» ⟨[.int b u, .ref l], []⟩) (fun _ R s => s.heap.get? l = some objO ∧ R (.ok (.ret .notImplemented)) s) :=
  .of_wp fun prog w A R s h => by obtain ⟨hp, g, d, tk, os⟩ := s; obtain ⟨hl, h⟩ := h; wp_walk using wpAny_loadPart' hl, wpAny_load hl; exact ⟨_, rfl, h⟩
theorem obj_eq_declines_int (b : Int) (u : Tok) (l : Addr) : Meets (Builtin.«object.__eq__» ⟨[.ref l, .int b u], []⟩) (fun _ R s => R (.ok (.ret .notImplemented)) s) :=
  .of_wp fun prog w A R s h => by
    obtain ⟨hp, g, d, tk, os⟩ := s
    have e : isSame (.ref l) (.int b u) = pure false := rfl
    wp_walk
    exact ⟨_, rfl, h⟩
theorem sub_int_object : isSubtype (.type "int") (.type "object") = pure true := by rw [isSubtype_type]; kernel_rfl
theorem eq_obj_int {prog : Program} {w : World} {A : Around} {E : Value → Shared → Prop} {s : Shared} {x : Addr} {b : Int} {u : Tok} {Q : Value → Shared → Prop} (ho : s.heap.get? x = some objO) (hu : A.units < cLine) (h : Q (.bool false) s) :
    wpAny (model prog w) A (compareOp .Eq (.ref x) (.int b u)) Q E s :=
  rc_eq_decline_sub (k := false) (Ta := "object") (Tb := "int") ⟨_, ho, rfl⟩ (typeIs_int s b u) (by decide) sub_int_object F.slot_object_eq F.slot_int_eq_refl
    (fun _ hq => call_meets F.slot_object_eq ⟨_, ho, rfl⟩ F.entry_object_eq (F.args_object_eq_2 _ _) (obj_eq_declines_int b u x) hq)
    (fun _ hq => call_meets F.slot_int_eq_refl (typeIs_int s b u) F.entry_int_eq (F.args_int_eq_2 _ _) (int_eq_declines_obj b u x) ⟨ho, hq⟩)
    (fun _ hq => wpAny_of_eq (rfl : isSame (.ref x) (.int b u) = pure false) hq) (.inr hu) h
theorem set_any {prog : Program} {w : World} {A : Around} {E : Value → Shared → Prop} {s : Shared} {h₀ : Heap} {L D : Addr} {m : Str → Option Value} {news news' : List (Addr × Obj)} {vs : List Value} {n : Nat} {k : Int} {t : Tok} {x : Value} {Q : Unit → Shared → Prop}
    (F : Fr h₀ L s.heap m) (N : News h₀ L s.heap news) (U : Upd D (listOf vs.toArray n) (listOf (vs.set k.toNat x).toArray n) news news') (h0 : 0 ≤ k) (h1 : k.toNat < vs.length) (hfit : k < 2 ^ 63)
    (h : ∀ h', Fr h₀ L h' m → News h₀ L h' news' → Q () { s with heap := h' }) :
    wpAny (model prog w) A (setItem (.ref D) (.int k t) x) Q E s := by
  obtain ⟨pre, post, rfl, rfl, a, b⟩ := U.split
  have z := N (D, listOf vs.toArray n) (List.mem_append.mpr (.inr (.head _)))
  have hs : vs.toArray.size = vs.length := List.size_toArray
  refine ki_setAt z.1 h0 hfit (by omega) (h _ (F.change (Heap.SameBut.update ..) z.2.1 z.2.2) (ki_turn _ N a b ?_ ?_))
  · show vs.toArray.setIfInBounds k.toNat x = (vs.set k.toNat x).toArray
    apply Array.toList_inj.mp
    simp
  · simp
end
section
noncomputable def MVs (NL : Addr) (us : List Value) (l : List Int) (Z : Nat → Int → Prop) : Prop :=
  us.length = l.length ∧ ∀ k, k < l.length → ∃ v, us[k]? = some v ∧ ((Z k (l.getD k 0) ∧ v = .ref NL) ∨ (¬ Z k (l.getD k 0) ∧ ∃ t, v = .int (l.getD k 0) t))
theorem MVs.start {NL : Addr} {us : List Value} {l : List Int} (hi : IntsAre us l) : MVs NL us l (fun _ _ => False) := by
  refine ⟨hi.length, fun k hk => ?_⟩
  obtain ⟨t, e⟩ := hi.get k l[k] (by simp [hk])
  exact ⟨_, e, .inr ⟨fun h => h, t, by rw [getD_lt hk]⟩⟩
theorem MVs.congr {NL : Addr} {us : List Value} {l : List Int} {Z Z' : Nat → Int → Prop} (h : MVs NL us l Z) (e : ∀ k, k < l.length → (Z k (l.getD k 0) ↔ Z' k (l.getD k 0))) : MVs NL us l Z' := by
  refine ⟨h.1, fun k hk => ?_⟩
  obtain ⟨v, h1, h2⟩ := h.2 k hk
  refine ⟨v, h1, ?_⟩
  rwa [e k hk] at h2
theorem MVs.set {NL : Addr} {us : List Value} {l : List Int} {Z : Nat → Int → Prop} (h : MVs NL us l Z) {j : Nat} (hj : j < l.length) : MVs NL (us.set j (.ref NL)) l (fun k y => Z k y ∨ k = j) := by
  refine ⟨by rw [List.length_set]; exact h.1, fun k hk => ?_⟩
  by_cases e : k = j
  · subst e
    refine ⟨.ref NL, ?_, .inl ⟨.inr rfl, rfl⟩⟩
    rw [List.getElem?_set_self (by rw [h.1]; exact hj)]
  · obtain ⟨v, h1, h2⟩ := h.2 k hk
    refine ⟨v, by rw [List.getElem?_set_ne (fun q => e q.symm)]; exact h1, ?_⟩
    rcases h2 with ⟨a, b⟩ | ⟨a, b⟩
    · exact .inl ⟨.inl a, b⟩
    · exact .inr ⟨fun q => q.elim a e, b⟩
noncomputable def Zj (B : Int → Prop) (x : Int) (j : Nat) (k : Nat) (y : Int) : Prop := B y ∨ (y = x ∧ k < j)
theorem count_take {l : List Int} {j : Nat} (hj : j < l.length) (x : Int) : (l.take (j + 1)).count x = (l.take j).count x + if l.getD j 0 = x then 1 else 0 := by
  rw [List.take_add_one, List.getElem?_eq_getElem hj, List.count_append, getD_lt hj]
  simp only [Option.toList_some, List.count_cons, List.count_nil, Nat.zero_add, beq_iff_eq]
theorem MVs.first {NL : Addr} {us : List Value} {l : List Int} {B : Int → Prop} {x : Int} {j : Nat} (h : MVs NL us l (fun _ y => B y)) (hj : x ∉ l.take j) : MVs NL us l (Zj B x j) ∧ (l.take j).count x = 0 := by
  refine ⟨h.congr fun k hk => ⟨.inl, fun q => ?_⟩, List.count_eq_zero.mpr hj⟩
  rcases q with q | ⟨e, q⟩
  · exact q
  · refine absurd ?_ hj
    rw [← e, getD_lt hk, List.mem_take_iff_getElem]
    exact ⟨k, by omega, rfl⟩
theorem MVs.no {NL : Addr} {us : List Value} {l : List Int} {B : Int → Prop} {x : Int} {j : Nat} (h : MVs NL us l (Zj B x j)) (hj : j < l.length) (hx : l.getD j 0 ≠ x) : MVs NL us l (Zj B x (j + 1)) ∧ (l.take (j + 1)).count x = (l.take j).count x := by
  refine ⟨h.congr fun k hk => ⟨fun q => ?_, fun q => ?_⟩, by rw [count_take hj, if_neg hx]; rfl⟩
  · rcases q with q | ⟨e, q⟩
    · exact .inl q
    · exact .inr ⟨e, by omega⟩
  · rcases q with q | ⟨e, q⟩
    · exact .inl q
    · by_cases hkj : k = j
      · subst hkj; exact absurd e hx
      · exact .inr ⟨e, by omega⟩
theorem MVs.yes {NL : Addr} {us : List Value} {l : List Int} {B : Int → Prop} {x : Int} {j : Nat} (h : MVs NL us l (Zj B x j)) (hj : j < l.length) (hx : l.getD j 0 = x) : MVs NL (us.set j (.ref NL)) l (Zj B x (j + 1)) ∧ (l.take (j + 1)).count x = (l.take j).count x + 1 := by
  refine ⟨(h.set hj).congr fun k hk => ⟨fun q => ?_, fun q => ?_⟩, by rw [count_take hj, if_pos hx]⟩
  · rcases q with (q | ⟨e, q⟩) | q
    · exact .inl q
    · exact .inr ⟨e, by omega⟩
    · subst q; exact .inr ⟨hx, by omega⟩
  · rcases q with q | ⟨e, q⟩
    · exact .inl (.inl q)
    · by_cases hkj : k = j
      · exact .inr hkj
      · exact .inl (.inr ⟨e, by omega⟩)
theorem MVs.last {NL : Addr} {us : List Value} {l : List Int} {B : Int → Prop} {x : Int} (h : MVs NL us l (Zj B x l.length)) : MVs NL us l (fun _ y => B y ∨ y = x) := by
  refine h.congr fun k hk => ⟨fun q => q.imp id (·.1), fun q => q.imp id fun e => ⟨e, hk⟩⟩
theorem MVs.at {NL : Addr} {us : List Value} {l : List Int} {B : Int → Prop} {x : Int} {j : Nat} (h : MVs NL us l (Zj B x j)) (hj : j < l.length) (hB : ¬ B x) : ∃ v, us[j]? = some v ∧ ((l.getD j 0 ≠ x ∧ v = .ref NL) ∨ ∃ t, v = .int (l.getD j 0) t) := by
  obtain ⟨v, h1, h2⟩ := h.2 j hj
  refine ⟨v, h1, h2.imp (fun q => ⟨fun e => ?_, q.2⟩) (·.2)⟩
  rcases q.1 with q | ⟨_, q⟩
  · rw [e] at q; exact hB q
  · exact absurd q (Nat.lt_irrefl _)
abbrev Row := Int × Int × Int
noncomputable def cdStep (wn pn : List Int) (i : Nat) : List Row := if wn.getD i 0 ∈ wn.take i ∨ wn.count (wn.getD i 0) = pn.count (wn.getD i 0) then [] else [((wn.count (wn.getD i 0) : Nat), (pn.count (wn.getD i 0) : Nat), wn.getD i 0)]
noncomputable def cdStep2 (wn pn : List Int) (i : Nat) : List Row := if pn.getD i 0 ∈ wn ∨ pn.getD i 0 ∈ pn.take i then [] else [(0, (pn.count (pn.getD i 0) : Nat), pn.getD i 0)]
noncomputable def cdUp (f : Nat → List Row) (j : Nat) : List Row := (List.range j).flatMap f
theorem cdUp_succ (f : Nat → List Row) (j : Nat) : cdUp f (j + 1) = cdUp f j ++ f j := by
  unfold cdUp; rw [List.range_succ, List.flatMap_append, List.flatMap_singleton]
theorem cdUp_len (f : Nat → List Row) (hf : ∀ j, (f j).length ≤ 1) (j : Nat) : (cdUp f j).length ≤ j := by
  induction j with
  | zero => exact Nat.le_refl _
  | succ j ih => rw [cdUp_succ, List.length_append]; have := hf j; omega
theorem cdStep_len (wn pn : List Int) (j : Nat) : (cdStep wn pn j).length ≤ 1 := by unfold cdStep; split <;> simp
theorem cdStep2_len (wn pn : List Int) (j : Nat) : (cdStep2 wn pn j).length ≤ 1 := by unfold cdStep2; split <;> simp
noncomputable def cdRows (wn pn : List Int) : List Row := cdUp (cdStep wn pn) wn.length ++ cdUp (cdStep2 wn pn) pn.length
theorem set_first {prog : Program} {w : World} {A : Around} {E : Value → Shared → Prop} {s : Shared} {h₀ : Heap} {L D : Addr} {m : Str → Option Value} {post : List (Addr × Obj)} {vs : List Value} {n : Nat} {k : Int} {t : Tok} {x : Value} {Q : Unit → Shared → Prop}
    (F : Fr h₀ L s.heap m) (N : News h₀ L s.heap ((D, listOf vs.toArray n) :: post)) (hp : ∀ p ∈ post, p.1 ≠ D) (h0 : 0 ≤ k) (h1 : k.toNat < vs.length) (hfit : k < 2 ^ 63)
    (h : ∀ h', Fr h₀ L h' m → News h₀ L h' ((D, listOf (vs.set k.toNat x).toArray n) :: post) → Q () { s with heap := h' }) :
    wpAny (model prog w) A (setItem (.ref D) (.int k t) x) Q E s := by
  have z := N (D, listOf vs.toArray n) (.head _)
  have hs : vs.toArray.size = vs.length := List.size_toArray
  refine ki_setAt z.1 h0 hfit (by omega) (h _ (F.change (Heap.SameBut.update ..) z.2.1 z.2.2) (ki_turn (pre := []) _ N (fun _ h => nomatch h) hp ?_ ?_))
  · show vs.toArray.setIfInBounds k.toNat x = (vs.set k.toNat x).toArray
    apply Array.toList_inj.mp
    simp
  · simp
end
section
section
open Builtin Builtin.ObjectAttr Builtin.Getset_descriptor
variable {prog : Program} {w : World} {A : Around} {K : Frag} {C p : Addr} {R : Result → Shared → Prop}
theorem oi_args3 (a b c d : Value) : argsOk "object.__init__" ⟨[a, b, c, d], []⟩ := by unfold argsOk; kernel_rfl
theorem made_none {M : Model} {h : Heap} {oc : Value} {od : Option Addr} {cd : ClassData} {sl : Array (Option Value)} (Xh : K.In h) (hC : K.lookup C = some ⟨oc, od, .cls cd, sl⟩) (hne : cd.mro.isEmpty = false) (h4 : (sl.toList[4]?).join = some .none) :
    Looks M h (Bind.madeBy (.ref C)) none := by
  have hc : clsIn K C = some cd := by unfold clsIn; rw [hC]
  intro A Q E s k q
  have hm3 : Looks M h (mroOf (.ref C)) cd.mro := (looks_clsIn Xh hc).andThen .now
  unfold Bind.madeBy
  refine wpAny_bind (hm3 A _ E s k ?_)
  obtain ⟨c, l, hl⟩ : ∃ c l, cd.mro = c :: l := by cases q : cd.mro with | nil => rw [q] at hne; cases hne | cons c l => exact ⟨c, l, rfl⟩
  rw [hl, List.forIn_cons]
  refine wpAny_bind (wpAny_bind (wpAny_bind (wpAny_bind (wpAny_loadPart (k _ _ (Xh _ _ hC)) (wpAny_pure ?_)))))
  dsimp only
  rw [← Array.getElem?_toList, h4]
  exact wpAny_pure (wpAny_pure (wpAny_pure q))
theorem best_tuple : Slots.bestBase [.type "tuple"] = pure (.type "tuple") := by first | rfl | kernel_rfl
theorem base_tuple {M : Model} {h : Heap} {oc : Value} {od : Option Addr} {cd : ClassData} {sl : Array (Option Value)} (Xh : K.In h) (hC : K.lookup C = some ⟨oc, od, .cls cd, sl⟩) (hmro : cd.mro = [.ref C, .type "tuple", .type "object"]) (h4 : (sl.toList[4]?).join = some .none) (hb : cd.bases = [.type "tuple"]) :
    Looks M h (Bind.staticBase (.ref C)) (.type "tuple") := by
  have hc : clsIn K C = some cd := by unfold clsIn; rw [hC]
  intro A Q E s k q
  have hm3 : Looks M h (mroOf (.ref C)) cd.mro := (looks_clsIn Xh hc).andThen .now
  have hcd : Looks M h (classData C) cd := looks_clsIn Xh hc
  have made := made_none (M := M) Xh hC (by rw [hmro]; rfl) h4
  unfold Bind.staticBase
  refine wpAny_bind (hm3 A _ E s k ?_)
  rw [hmro, List.forIn_cons]
  refine wpAny_bind (wpAny_bind (wpAny_bind (made A _ E s k ?_)))
  simp only [Option.isSome_none, Bool.false_eq_true, if_false]
  refine wpAny_bind (hcd A _ E s k ?_)
  rw [hb]
  refine wpAny_bind (wpAny_of_eq best_tuple (wpAny_pure ?_))
  dsimp only
  rw [List.forIn_cons]
  refine wpAny_bind (wpAny_bind (wpAny_of_eq F.called_tuple.made ?_))
  exact wpAny_pure (wpAny_pure (wpAny_pure q))
theorem tn_split : splitId "tuple.__new__" = some ("tuple", "__new__") := by decide +kernel
theorem tn_kind : builtinKind "tuple.__new__" = some .builtinFn := by decide +kernel
theorem tn_quiet : ∀ args, (Code.builtin "tuple.__new__" args).quiet = true := fun args => Code.quiet_builtin _ (by decide +kernel)
theorem tup_new {h : Heap} {g : Array GenState} {d : Drawn} {t : Nat} {os : OsState} {oc : Value} {od : Option Addr} {cd : ClassData} {sl : Array (Option Value)} {tp : Addr} {items : Array Value} {n : Nat} {o : Obj} {Q : Value → Shared → Prop} {E : Value → Shared → Prop} (Xh : K.In h) (hC : K.lookup C = some ⟨oc, od, .cls cd, sl⟩) (hmro : cd.mro = [.ref C, .type "tuple", .type "object"]) (h4 : (sl.toList[4]?).join = some .none) (hb : cd.bases = [.type "tuple"]) (hdel : cd.hasDel = false)
    (hinit : findIn K (.ref C) "__init__" = some (some (.builtin "object.__init__"))) (htyp : instIn K (.ref C) (.type "type") = some true) (hsz : items.size ≤ sizeLine)
    (ho : h.get? tp = some o) (hoc : o.cls = .type "tuple") (hod : o.data = .seq items n)
    (hq : ∀ h' : Heap, (∀ b o', h.get? b = some o' → h'.get? b = some o') → Q (.ref (h'.objs.size + 1)) ⟨(h'.push emptyDict).push { cls := .ref C, dict := some h'.objs.size, data := .seq items }, g, d, t, os⟩) :
    wpAny (model prog w) A (call (.builtin "tuple.__new__") [.ref C, .ref tp]) Q E ⟨h, g, d, t, os⟩ := by
  have hc : clsIn K C = some cd := by unfold clsIn; rw [hC]
  have made := made_none (M := model prog w) Xh hC (by rw [hmro]; rfl) h4
  have base := base_tuple (M := model prog w) Xh hC hmro h4 hb
  have sub : Looks (model prog w) h (isSubtype (.ref C) (.type "tuple")) true := looks_mroIn Xh (by unfold mroIn; rw [hc, Option.bind_some, hmro]; rfl)
  have typ := looks_instIn (M := model prog w) Xh htyp
  have ini := looks_findIn (M := model prog w) Xh hinit
  have mt : Looks (model prog w) h (Bind.madeBy (.type "tuple")) (some "tuple.__new__") := Looks.of_pure F.called_tuple.made
  have hCh := Xh _ _ hC
  refine wpAny_call (codeAny_call_builtin_code (tn_quiet _) ?_)
  simp only [checkBuiltinCall, tn_kind, tn_split]
  unfold isType
  repeat lk
  refine codeAny_builtin F.entry_tuple_new ?_
  unfold Builtin.«tuple.__new__» isType
  have here : Looks (model prog w) h (Bind.madeHere "tuple.__new__" (.ref C)) () := base.andThen (mt.andThen (Looks.of_pure (by simp only [Option.map_some, bne_self_eq_false, Bool.false_eq_true, if_false])))
  repeat (first | with_reducible refine wpAny_collect_seq (s := ⟨h, g, d, t, os⟩) tp (.inr rfl) ho hoc hod (fun h' hk => ?_) hsz | lk)
  have hC' := Heap.get?_push_of_some emptyDict (hk _ _ hCh)
  have hC2 := fun x => Heap.get?_push_of_some x hC'
  have hsz2 : ¬ items.size > sizeLine := Nat.not_lt.mpr hsz
  simp only [Array.toArray_toList]
  rw [if_neg hsz2]
  unfold newObjAsIs classHasDel
  refine wpAny_bind (wpAny_alloc (wpAny_bind (wpAny_bind (wpAny_load (hC2 _) (wpAny_pure ?_)))))
  rw [hdel]
  refine wpAny_pure (wpAny_pure ?_)
  show Q _ _
  rw [Heap.size_push]
  exact hq h' hk
end
end
section
section
open Builtin Builtin.ObjectAttr Builtin.Getset_descriptor
variable {prog : Program} {w : World} {A : Around} {K : Frag} {C p : Addr} {R : Result → Shared → Prop}
theorem own_new {mc f a b c : Value} {r : List Value} {s : Shared} {h₀ : Heap} {L : Addr} {m : Str → Option Value} {oc : Value} {od : Option Addr} {cd : ClassData} {sl : Array (Option Value)} (F : Fr h₀ L s.heap m) (X₀ : K.In h₀)
    (hC : K.lookup C = some ⟨oc, od, .cls cd, sl⟩) (hne : cd.mro.isEmpty = false) (h4 : (sl.toList[4]?).join = some .none) (hself : mroIn K C (.ref C) = some true) (hobj : mroIn K C (.type "object") = some true)
    (hcall : specialIn K (.ref C) "__call__" = some (some (.builtin "type.__call__"))) (htyp : instIn K (.ref C) (.type "type") = some true) (hinit : findIn K (.ref C) "__init__" = some (some (.builtin "object.__init__")))
    (hm : typeIn K (.ref C) = some mc) (hr : readsIn K C mc = true) (e : findCls K (.ref C) mc "__new__" = some (.get (.builtin "staticmethod.__get__") (.ref p) .none (.ref C))) (hp : recIn K p "staticmethod" = some (f :: r)) (hv : handedIn f = true)
    (h : codeAny (model prog w) (A.under (.builtin "type.__call__" ⟨[.ref C, a, b, c], []⟩)) (.call f ⟨[.ref C, a, b, c], []⟩)
      (fun r s' => match r with | .ok (.ret v) => (∃ D o, v = .ref D ∧ s'.heap.get? D = some o ∧ o.cls = .ref C ∧ (∀ b o, h₀.get? b = some o → s'.heap.get? b = some o) ∧ R (.ok (.ret (.ref D))) s') | .ok _ => False | .error e => R (.error e) s') { s with toks := s.toks + 1 }) :
    codeAny (model prog w) A (.call (.ref C) ⟨[a, b, c], []⟩) R s := by
  have X := X₀.keeps F.keep
  have hc : clsIn K C = some cd := by unfold clsIn; rw [hC]
  have hm2 : Looks (model prog w) s.heap (mroOf (.ref C)) cd.mro := (looks_clsIn X hc).andThen .now
  have call := looks_specialIn (M := model prog w) X hcall
  have typ := looks_instIn (M := model prog w) X htyp
  have made : ∀ hh, K.In hh → Looks (model prog w) hh (Bind.madeBy (.ref C)) none := fun hh Xh => made_none Xh hC hne h4
  have made1 := made s.heap X
  refine codeAny_of_tree ?_
  show wpAny _ _ (callAny (.ref C) _) _ _ _
  refine nd_load (X _ _ hC) ?_
  show wpAny _ _ (callAny.viaDunder (.ref C) _) _ _ _
  unfold callAny.viaDunder
  refine wpAny_bind (call.at ?_)
  dsimp only
  rw [tc_bind]
  refine wpAny_bind (wpAny_pure (wpAny_bind (wpAny_pure ?_)))
  refine wpAny_pure (a := Fin.again (.call (.builtin "type.__call__") ⟨[.ref C, a, b, c], []⟩)) (And.intro rfl ?_)
  refine codeAny_call_builtin_at (Code.quiet_builtin _ (by decide +kernel)) entry_typeCall (check_slot tc_kind tc_split typ (tc_args _ _ _) ?_)
  unfold Builtin.«type.__call__»
  repeat (first | simp only [hne, Bool.false_eq_true, if_false] | with_reducible refine cls_sm F X₀ hm hr e hp hv ?_ | with_reducible refine wpAny_call ?_ | lk)
  refine codeAny_mono h fun r s' z => ?_
  rcases r with e | (v | _ | _ | _) <;> first | exact z | exact z.elim | skip
  obtain ⟨D, o, rfl, hD, hoc, hkeep, hR⟩ := z
  have X2 : K.In s'.heap := fun b o e => hkeep _ _ (X₀ _ _ e)
  obtain ⟨hh, g, d, t, os⟩ := s'
  dsimp only at hD hkeep hR X2 ⊢
  obtain ⟨oc2, od2, da2, sl2⟩ := o
  dsimp only at hoc
  subst hoc
  have t1 : Looks (model prog w) hh (typeOf (.ref D)) (.ref C) := (Looks.ld hD).andThen .now
  have s1 : Looks (model prog w) hh (isSubtype (.ref C) (.ref C)) true := looks_mroIn X2 hself
  have i1 : Looks (model prog w) hh (typeLookup (.ref C) "__init__") (some (.builtin "object.__init__")) := looks_findIn X2 hinit
  have b1 : Looks (model prog w) hh (bindSpecial (.builtin "object.__init__") (.ref D)) (.builtin "object.__init__", [.ref D]) := Looks.of_pure (oi_bind (.ref D))
  have made2 := made hh X2
  have t2 : Looks (model prog w) hh (isInstance (.ref D) (.type "object")) true := t1.andThen (looks_mroIn X2 hobj)
  unfold isInstance callSpecial? specialOf
  repeat (first | with_reducible refine wpAny_call ?_ | lk)
  refine codeAny_call_builtin oi_plain entry_oi (@check_slot (model prog w) _ _ _ "object.__init__" "object" "__init__" (.ref D) [a, b, c] [] _ oi_kind oi_split t2 (oi_args3 (.ref D) a b c) ?_)
  unfold Builtin.«object.__init__»
  repeat lk
  exact hR
end
theorem stub_tuple : Manifest.isStub "tuple" = false := by decide +kernel
theorem meta_tuple : typeOf (.type "tuple") = pure (.type "type") := by first | rfl | kernel_rfl
noncomputable def misObj (dx : Addr) (a b c : Value) : Obj := { cls := .ref 184, dict := some dx, data := .seq #[a, b, c] }
theorem mis_c (w : World) {news : List (Addr × Obj)} {x y z : Int} {t1 t2 t3 : Tok} :
    Ctr w 6 184 [.int x t1, .int y t2, .int z t3] news (fun r news' => ∃ D dx, r = .ref D ∧ news' = (D, misObj dx (.int x t1) (.int y t2) (.int z t3)) :: news ∧ ∀ p ∈ news, p.1 < D) := by
  k_with_none
  w_top off
  have hkf := kfill w
  (revert hkf; k_fill; intro hkf)
  clear hkf
  refine Ctr.mk ?_
  have hMark := kstMark
  intro p_ loose mean mg mb dp un gd cn cs a ccd cl outer A₀ base h₀ L m s Q E B F X N T hk hdp hun hret
  refine wpAny_call ?_
  k_dflt (refine' own_new (C := 184) F X ?k1 ?k2 ?k3 ?k4 ?k5 ?k6 ?k7 ?k8 ?k9 ?ka ?kb ?kc ?kd ?_; (case k1 => k_is); (case k2 => exact rfl); (case k3 => exact rfl); (case k4 => k_is); (case k5 => k_is); (case k6 => k_is); (case k7 => k_is); (case k8 => k_is); (case k9 => k_is); (case ka => k_is); (case kb => k_is); (case kc => k_is); (case kd => exact rfl))
  k_dflt cell_enter
  try k_fold
  k_steps
  refine' method_type ?F ?X ?m ?sx ?e ?h ?_
  (case m => exact meta_tuple)
  (case sx => exact stub_tuple)
  (case F => k_asm)
  (case X => k_asm)
  (case e => k_dflt k_is)
  (case h => k_handed)
  k_whole
  try k_fold
  k_steps
  (rename Fr _ _ _ _ => F9); (rename News _ _ _ _ => N9)
  (rename Frag.In _ _ => X9)
  have hN := N9 _ List.mem_cons_self
  refine tup_new (X9.keeps F9.keep) (by k_is) rfl rfl rfl rfl (by k_is) (by k_is) (by show 3 ≤ sizeLine; rw [sizeLine_eq]; omega) hN.1 rfl rfl ?_
  intro h2 hk2
  have F3 : Fr _ _ h2 _ := ⟨F9.ns.at (fun o x => hk2 _ _ x), fun b o x => hk2 b o (F9.keep b o x), F9.above⟩
  have N3 : News _ _ h2 news := fun p hp => ⟨hk2 _ _ (N9 p (List.mem_cons_of_mem _ hp)).1, (N9 p (List.mem_cons_of_mem _ hp)).2⟩
  have N4 := (N3.push F3 emptyDict).push (F3.push _) (misObj h2.objs.size (.int x t1) (.int y t2) (.int z t3))
  have F4 := (F3.push emptyDict).push (misObj h2.objs.size (.int x t1) (.int y t2) (.int z t3))
  rw [Heap.size_push] at N4
  have N5 : News _ _ _ ((h2.objs.size + 1, misObj h2.objs.size (.int x t1) (.int y t2) (.int z t3)) :: news) := kst_newsOf N4 (by intro p hp; rcases List.mem_cons.mp hp with rfl | hp; exact List.mem_cons_self; exact List.mem_cons_of_mem _ (List.mem_cons_of_mem _ hp))
  refine leaveK_ F4 N5 ?_
  intro F6 N6
  refine ⟨h2.objs.size + 1, _, rfl, (N6 _ List.mem_cons_self).1, rfl, F6.keep, ?_⟩
  refine hret _ _ _ _ F6 N6 ⟨_, _, rfl, rfl, fun p hp => Nat.lt_succ_of_lt (Heap.lt_size (N3 p hp).1)⟩
noncomputable def MisIn (l : List (Addr × Obj)) (v : Value) (r : Int × Int × Int) : Prop := ∃ D dx t1 t2 t3, v = .ref D ∧ (D, misObj dx (.int r.1 t1) (.int r.2.1 t2) (.int r.2.2 t3)) ∈ l
inductive MisAll (l : List (Addr × Obj)) : List Value → List (Int × Int × Int) → Prop
  | nil : MisAll l [] []
  | cons {v : Value} {r : Int × Int × Int} {vs : List Value} {rs : List (Int × Int × Int)} : MisIn l v r → MisAll l vs rs → MisAll l (v :: vs) (r :: rs)
theorem MisAll.length {l : List (Addr × Obj)} {vs : List Value} {rs : List (Int × Int × Int)} (h : MisAll l vs rs) : vs.length = rs.length := by
  induction h with
  | nil => rfl
  | cons _ _ ih => rw [List.length_cons, List.length_cons, ih]
theorem MisAll.mono {l l' : List (Addr × Obj)} {vs : List Value} {rs : List (Int × Int × Int)} (h : MisAll l vs rs) (hs : ∀ p ∈ l, p ∈ l') : MisAll l' vs rs := by
  induction h with
  | nil => exact .nil
  | cons h _ ih =>
    obtain ⟨D, dx, t1, t2, t3, e, hm⟩ := h
    exact .cons ⟨D, dx, t1, t2, t3, e, hs _ hm⟩ ih
theorem MisAll.snoc {l : List (Addr × Obj)} {vs : List Value} {rs : List (Int × Int × Int)} (h : MisAll l vs rs) {v : Value} {r : Int × Int × Int} (hv : MisIn l v r) : MisAll l (vs ++ [v]) (rs ++ [r]) := by
  induction h with
  | nil => exact .cons hv .nil
  | cons h _ ih => exact .cons h ih
theorem MisAll.at {l : List (Addr × Obj)} {vs : List Value} {rs : List (Int × Int × Int)} (h : MisAll l vs rs) : ∀ (k : Nat) (v : Value), vs[k]? = some v → ∃ r : Int × Int × Int, rs[k]? = some r ∧ MisIn l v r := by
  induction h with
  | nil => intro k v e; simp at e
  | cons h _ ih =>
    intro k v e
    cases k with
    | zero => exact ⟨_, rfl, by rw [← Option.some.inj e]; exact h⟩
    | succ k => exact ih k v e
end
section
section
open Builtin Builtin.ObjectAttr Builtin.Getset_descriptor
variable {prog : Program} {w : World} {A : Around} {K : Frag} {C D : Addr} {E : Value → Shared → Prop}
theorem ti_args (a : Value) : argsOk "tuple.__iter__" ⟨[a], []⟩ := by unfold argsOk; kernel_rfl
theorem ti_kind : builtinKind "tuple.__iter__" = some .slot := by decide +kernel
theorem ti_split : splitId "tuple.__iter__" = some ("tuple", "__iter__") := by decide +kernel
theorem own_iter {h : Heap} {g : Array GenState} {d : Drawn} {t : Nat} {os : OsState} {o : Obj} {Q : Value → Shared → Prop} (X : K.In h) (hD : h.get? D = some o) (hoc : o.cls = .ref C)
    (hfi : findIn K (.ref C) "__iter__" = some (some (.builtin "tuple.__iter__"))) (hsub : mroIn K C (.type "tuple") = some true)
    (hq : Q (.ref h.objs.size) ⟨h.push { cls := .type "tuple_iterator", data := .fields #[.ref D, .int 0 0] }, g, d, t, os⟩) :
    wpAny (model prog w) A (pyIter (.ref D)) Q E ⟨h, g, d, t, os⟩ := by
  obtain ⟨oc, od, da, sl⟩ := o
  dsimp only at hoc
  subst hoc
  have t1 : Looks (model prog w) h (typeOf (.ref D)) (.ref C) := (Looks.ld hD).andThen .now
  have i1 : Looks (model prog w) h (typeLookup (.ref C) "__iter__") (some (.builtin "tuple.__iter__")) := looks_findIn X hfi
  have b1 : Looks (model prog w) h (bindSpecial (.builtin "tuple.__iter__") (.ref D)) (.builtin "tuple.__iter__", [.ref D]) := Looks.of_pure (F.slot_tuple_iter.bind (.ref D))
  have t2 : Looks (model prog w) h (isInstance (.ref D) (.type "tuple")) true := t1.andThen (looks_mroIn X hsub)
  unfold pyIter callSpecialIfBoundUnlessNone? specialOf
  repeat (first | with_reducible refine wpAny_call ?_ | lk)
  rw [F.slot_tuple_iter.bind]
  have both : ∀ (P : Option (Value × List Value) → Shared → Prop) (s : Shared), P (some (.builtin "tuple.__iter__", [.ref D])) s → wpAny (model prog w) A (if (model prog w).w.params.followText "special-get-raises" = true then do
      let x ← (pure (Value.builtin "tuple.__iter__", [Value.ref D]) : Sem (Value × List Value))
      pure (some x)
    else
      (do
        let x ← (pure (Value.builtin "tuple.__iter__", [Value.ref D]) : Sem (Value × List Value))
        pure (some x)).tryCatch fun _ => do
          rule "special.get-raises-dropped"
          pure none) P E s := by
    intro P s hp
    split
    · exact wpAny_bind (wpAny_pure (wpAny_pure hp))
    · exact wpAny_of_eq (by rfl) hp
  refine both _ _ ?_
  repeat (first | with_reducible refine wpAny_call ?_ | lk)
  refine codeAny_call_builtin F.slot_tuple_iter.plain F.entry_tuple_iter (@check_slot (model prog w) _ _ _ "tuple.__iter__" "tuple" "__iter__" (.ref D) [] [] _ ti_kind ti_split t2 (ti_args (.ref D)) ?_)
  show wpAny _ _ (do ret (← newFields "tuple_iterator" [.ref D, rawInt 0])) _ _ _
  refine wpAny_bind (wpAny_newObj_type (wpAny_pure ?_))
  have t3 : Looks (model prog w) (h.push { cls := .type "tuple_iterator", data := .fields #[.ref D, rawInt 0] }) (typeOf (.ref h.objs.size)) (.type "tuple_iterator") := (Looks.ld (Heap.get?_push_size _ rfl)).andThen .now
  have n3 : Looks (model prog w) (h.push { cls := .type "tuple_iterator", data := .fields #[.ref D, rawInt 0] }) (typeLookup (.type "tuple_iterator") "__next__") (some (.builtin "tuple_iterator.__next__")) := Looks.of_pure F.slot_tuple_iterator_next.lookup
  repeat lk
  exact hq
variable {s : Shared} {o : Obj} {items : Array Value} {n : Nat}
theorem own_next {I : Addr} {i : Nat} {x : Value} {Q : Option Value → Shared → Prop} (hI : s.heap.IsTupleIter I D i) (hD : s.heap.get? D = some o) (hd : o.data = .seq items n) (hx : items[i]? = some x)
    (h : ∀ h', h'.IsTupleIter I D (i + 1) → Heap.SameBut I s.heap h' → Q (some x) { s with heap := h' }) : wpAny (model prog w) A (pyNext (.ref I)) Q E s := by
  obtain ⟨oi, hoi, hci, hdi⟩ := id hI
  have f0 : (#[Value.ref D, Value.int (i : Int) 0] : Array Value)[0]? = some (Value.ref D) := rfl
  have f1 : (#[Value.ref D, Value.int (i : Int) 0] : Array Value)[1]? = some (Value.int (i : Int) 0) := rfl
  unfold pyNext
  refine wpAny_bind (wpAny_attempt (wpAny_callSpecial?_slot (name := Str.ofString "__next__") hI.typeIs F.slot_tuple_iterator_next
    (wpAny_call_entry F.slot_tuple_iterator_next hI.typeIs F.entry_tuple_iterator_next ?_ (F.args_tuple_iterator_next_1 _))))
  show wpAny _ _ (field (.ref I) 0 >>= _) _ _ s
  refine wpAny_bind (wpAny_field hoi hdi f0 ?_)
  have e1 : (Value.ref D == Value.none) = false := rfl
  simp only [e1, Bool.false_eq_true, if_false]
  refine wpAny_bind (wpAny_field hoi hdi f1 ?_)
  show wpAny _ _ (seqItems? (.ref D) >>= _) _ _ s
  refine wpAny_bind (wpAny_seqItems hD hd ?_)
  simp only [Int.toNat_natCast, hx]
  refine wpAny_bind (wpAny_setField hoi hdi (by simp) (wpAny_pure ⟨x, rfl, wpAny_pure (h _ ?_ (Heap.SameBut.update ..))⟩))
  refine ⟨_, Heap.get?_update_self _ hoi (Obj.isFreed_of_fields (Obj.data_mapFields hdi _)), (Obj.cls_mapFields ..).trans hci, ?_⟩
  rw [Obj.data_mapFields hdi]
  simp [rawInt]
theorem own_stop {I : Addr} {i : Nat} {Q : Option Value → Shared → Prop} (hh : A.handled = none) (hI : s.heap.IsTupleIter I D i) (hD : s.heap.get? D = some o) (hd : o.data = .seq items n) (hx : items[i]? = none)
    (h : ∀ h', Heap.ExtBut I s.heap h' → Q none { s with heap := h' }) : wpAny (model prog w) A (pyNext (.ref I)) Q E s := by
  obtain ⟨oi, hoi, hci, hdi⟩ := id hI
  have f0 : (#[Value.ref D, Value.int (i : Int) 0] : Array Value)[0]? = some (Value.ref D) := rfl
  have f1 : (#[Value.ref D, Value.int (i : Int) 0] : Array Value)[1]? = some (Value.int (i : Int) 0) := rfl
  unfold pyNext
  refine wpAny_bind (wpAny_attempt (wpAny_callSpecial?_slot (name := Str.ofString "__next__") hI.typeIs F.slot_tuple_iterator_next
    (wpAny_call_entry F.slot_tuple_iterator_next hI.typeIs F.entry_tuple_iterator_next ?_ (F.args_tuple_iterator_next_1 _))))
  show wpAny _ _ (field (.ref I) 0 >>= _) _ _ s
  refine wpAny_bind (wpAny_field hoi hdi f0 ?_)
  have e1 : (Value.ref D == Value.none) = false := rfl
  simp only [e1, Bool.false_eq_true, if_false]
  refine wpAny_bind (wpAny_field hoi hdi f1 ?_)
  show wpAny _ _ (seqItems? (.ref D) >>= _) _ _ s
  refine wpAny_bind (wpAny_seqItems hD hd ?_)
  simp only [Int.toNat_natCast, hx]
  refine wpAny_bind (wpAny_rule (wpAny_bind (wpAny_setField hoi hdi (by simp) (wpAny_bind ?_))))
  simp only [newExc, newTuple]
  refine wpAny_bind (wpAny_newObj_type ?_ (by size_fits))
  refine wpAny_bind (m := firstArgMember _ _) (wpAny_of_eq (a := Value.none) (by first | rfl | (simp only [firstArgMember]; rfl)) (wpAny_newObj_type ?_ (by size_fits)))
  simp only [raiseNew]
  refine wpAny_bind (wpAny_handled ?_)
  rw [show A.in1.handled = none from hh]
  refine wpAny_bind (wpAny_pure (wpAny_throw ?_))
  refine wpAny_bind (wpAny_isInstance (T := "StopIteration") (b := true) ⟨_, Heap.get?_push_size _ rfl, rfl⟩ isSubtype_stop ?_)
  exact wpAny_pure (h _ (((Heap.SameBut.update ..).extBut.push _).push _))
theorem own_unpack3 {h : Heap} {g : Array GenState} {d : Drawn} {t : Nat} {os : OsState} {a b c : Value} {Q : List Value → Shared → Prop} (hh : A.handled = none) (X : K.In h) (hD : h.get? D = some o) (hoc : o.cls = .ref C) (hd : o.data = .seq #[a, b, c] n)
    (hfi : findIn K (.ref C) "__iter__" = some (some (.builtin "tuple.__iter__"))) (hsub : mroIn K C (.type "tuple") = some true)
    (hQ : ∀ h', Heap.ExtBut h.objs.size h h' → Q [a, b, c] ⟨h', g, d, t, os⟩) : wpAny (model prog w) A (unpackItems (.ref D) 3 none) Q E ⟨h, g, d, t, os⟩ := by
  have hne : D ≠ h.objs.size := Nat.ne_of_lt (Heap.lt_size hD)
  have t1 : Looks (model prog w) h (typeOf (.ref D)) (.ref C) := by
    obtain ⟨oc, od, da, sl⟩ := o
    dsimp only at hoc
    subst hoc
    exact (Looks.ld hD).andThen .now
  have i1 : Looks (model prog w) h (typeLookup (.ref C) "__iter__") (some (.builtin "tuple.__iter__")) := looks_findIn X hfi
  unfold unpackItems notIterableAtAll specialOf
  refine wpAny_bind (wpAny_bind (wpAny_bind (t1.at (i1.at (wpAny_pure ?_)))))
  simp only [Bool.false_eq_true, if_false]
  refine wpAny_bind (wpAny_holding (own_iter X hD hoc hfi hsub ?_))
  refine wpAny_bind (wpAny_holding ?_)
  have hD0 : (h.push { cls := .type "tuple_iterator", data := .fields #[.ref D, .int 0 0] }).get? D = some o := Heap.get?_push_of_some _ hD
  show wpAny _ _ (pyNext (.ref h.objs.size) >>= _) _ _ _
  refine wpAny_bind (own_next (I := h.objs.size) (i := 0) ⟨_, Heap.get?_push_size _ rfl, rfl, rfl⟩ hD0 hd rfl fun h1 I1 S1 => ?_)
  have hD1 : h1.get? D = some o := (S1.2 _ hne).trans hD0
  refine wpAny_bind (wpAny_holding ?_)
  show wpAny _ _ (pyNext (.ref h.objs.size) >>= _) _ _ _
  refine wpAny_bind (own_next I1 hD1 hd rfl fun h2 I2 S2 => ?_)
  have hD2 : h2.get? D = some o := (S2.2 _ hne).trans hD1
  refine wpAny_bind (wpAny_holding ?_)
  show wpAny _ _ (pyNext (.ref h.objs.size) >>= _) _ _ _
  refine wpAny_bind (own_next I2 hD2 hd rfl fun h3 I3 S3 => ?_)
  have hD3 : h3.get? D = some o := (S3.2 _ hne).trans hD2
  refine wpAny_bind (wpAny_holding ?_)
  refine wpAny_pure (wpAny_pure (wpAny_pure (wpAny_pure ?_)))
  rw [if_neg (by simp)]
  refine wpAny_bind (wpAny_holding (own_stop hh I3 hD3 hd rfl fun h4 e4 => ?_))
  simp only [Option.isSome_none, Bool.false_eq_true, if_false]
  refine wpAny_pure (hQ h4 fun b o' hb e => e4 b o' hb ((S3.2 b hb).trans ((S2.2 b hb).trans ((S1.2 b hb).trans (Heap.get?_push_of_some _ e)))))
end
end
section
theorem is_int_ref {M : Model} {A : Around} {E : Value → Shared → Prop} {s : Shared} {n : Int} {t : Tok} {a : Addr} {Q : Value → Shared → Prop} (h : Q (.bool false) s) : wpAny M A (compareOp .Is (.int n t) (.ref a)) Q E s := by
  have e : compareOp .Is (.int n t) (.ref a) = (isSame (.int n t) (.ref a) >>= fun b => pure (.bool b)) := rfl
  rw [e]
  exact wpAny_bind (wpAny_of_eq (show isSame (.int n t) (.ref a) = pure false from rfl) (wpAny_pure h))
theorem cd_c (w : World) {W P : Addr} {ws ps : List Value} {wn pn : List Int} {a0 b0 : Nat} {rest : List (Addr × Obj)} (hw : IntsAre ws wn) (hp : IntsAre ps pn) (hn : wn.length ≤ 9) (hpl : pn.length ≤ 9) :
    Ctr w 10 194 [.ref W, .ref P] ((W, listOf ws.toArray a0) :: (P, listOf ps.toArray b0) :: rest) (fun r news' => ∃ D us k tlx, r = .ref D ∧ news' = (D, listOf us.toArray k) :: (W, listOf ws.toArray a0) :: (P, listOf ps.toArray b0) :: (rest ++ tlx) ∧ MisAll news' us (cdRows wn pn)) := by
  k_with_none
  w_top off
  have hkf := kfill w
  (revert hkf; k_fill; intro hkf)
  clear hkf
  refine Ctr.mk ?_
  k_with "call ref" => (refine unhold ?_)
  k_with "exec For Tuple Call cons nil" => (refine unhold ?_)
  k_with "pyIter ref" => (refine unhold ?_)
  have hMark := kstMark
  intro p_ loose mean mg mb dp un gd cn cs a ccd cl outer A₀ base h₀ L m s Q E B F X N T hk hdp hun hret
  refine wpAny_call ?_
  k_dflt cell_enter
  try k_fold
  k_steps
  (rename Fr _ _ _ _ => F9); (rename News _ _ _ _ => N9)
  refine object_K F9 N9 ?_
  clear F9 N9
  intro NL h' F' N' l1
  k_lt l1
  try k_fold
  k_steps
  rename_i gB LB _ FGb Bb Xb Tb _ Sl cS _ lS Tl cT _ lT T1 _ lT1 _ _ _ _ T2 _ lT2 _ _ _ _ _ Rl _ lR _ F9 N9 
  refine Hold.intro ?_
  refine For_enum ?_
  k_with "call type:enumerate" => (refine unhold ?_)
  try k_fold
  k_steps
  refine Hold.intro ?_
  refine' enum_st (σ := List Value × Nat × List Value × Nat × List Value × Nat × List Row) (n := wn.length)
    (fun c => [(Rl, listOf c.2.2.2.2.1.toArray c.2.2.2.2.2.1), (Tl, listOf c.2.2.1.toArray c.2.2.2.1), (Sl, listOf c.1.toArray c.2.1)]) ((NL, objO) :: (W, listOf ws.toArray a0) :: (P, listOf ps.toArray b0) :: rest) (fun _ => [])
    (fun l c => MisAll l c.2.2.2.2.1 c.2.2.2.2.2.2) [Str.ofString "elem", Str.ofString "cnt_s", Str.ofString "cnt_t", Str.ofString "j", Str.ofString "other_elem", Str.ofString "diff"]
    (fun i c => MVs NL c.1 wn (fun _ y => y ∈ wn.take i) ∧ MVs NL c.2.2.1 pn (fun _ y => y ∈ wn.take i) ∧ c.2.2.2.2.2.2 = cdUp (cdStep wn pn) i) (Rl :: Tl :: Sl :: NL :: W :: P :: rest.map (·.1)) (fun c => c.1.toArray) (ws, cS, ps, cT, [], 0, []) rfl rfl rfl rfl F9 N9 ?_ ?_ .nil (fun _ h => nomatch h) ?_ ?_ ?_ ?_ ?_ (by with_unfolding_all passes_own)
  · kst_inAny
  · intro c
    rfl
  · exact ⟨(MVs.start hw).congr (fun k hk => by simp), (MVs.start hp).congr (fun k hk => by simp), rfl⟩
  · intro c
    exact ⟨c.2.1, List.mem_cons_of_mem _ (List.mem_cons_of_mem _ (List.mem_singleton.mpr rfl))⟩
  · rintro i c ⟨h1, _⟩
    simpa using h1.1
  · rintro ⟨us, k1, vs, k2, ur, k3, rs⟩ tl i t v u h tk own hi hv hsep hoff hfa ⟨hP1, hP2, hP3⟩ F2 N2
    clear F9 N9
    try dsimp only at hv hP1 hP2 hP3 hfa F2 N2
    try dsimp only [kstB] at F2
    (try dsimp only [List.nil_append, List.cons_append] at N2); (try simp only [List.append_nil] at N2)
    try k_fold
    obtain ⟨v', hv', hd⟩ := hP1.2 i hi
    obtain rfl : v = v' := by
      have hv2 : us[i]? = some v := by simpa using hv
      rw [hv2] at hv'; exact Option.some.inj hv'
    rcases hd with ⟨hin, rfl⟩ | ⟨hin, tv, rfl⟩
    · k_steps
      refine Hold.intro ?_
      (rename Fr _ _ _ _ => F4); (rename News _ _ _ _ => N4)
      have hti : ∀ y, y ∈ wn.take i ↔ y ∈ wn.take (i + 1) := by
        intro y
        rw [List.take_add_one, List.getElem?_eq_getElem hi, List.mem_append, ← getD_lt hi 0]
        simp only [Option.toList_some, List.mem_singleton]
        exact ⟨.inl, fun h => h.elim id fun e => e ▸ hin⟩
      refine enum_end ⟨us, k1, vs, k2, ur, k3, rs⟩ [] hsep F4 N4 (by kst_inAny) (by kst_anyIn) (by rfl) (fun _ h => nomatch h) (fun _ h => nomatch h) (by kst_all) (by kst_same) hfa ?_
      exact ⟨hP1.congr fun k hk => hti _, hP2.congr fun k hk => hti _, by rw [cdUp_succ, cdStep, if_pos (.inl hin), List.append_nil]; exact hP3⟩
    · k_steps
      refine is_int_ref ?_
      try k_fold
      k_steps
      (rename Fr _ _ _ _ => F9); (rename News _ _ _ _ => N9); rename IsRange _ _ _ _ _ _ _ _ => rgX
      refine Hold.intro ?_
      have hrs : Builtin.Range.rangeSize (i : Int) (wn.length : Int) 1 = ((wn.length - i : Nat) : Int) := by
        simp [Builtin.Range.rangeSize]
        omega
      generalize hxe : wn.getD i 0 = x at *
      obtain ⟨hQ1, hQ2⟩ := hP1.first (x := x) (j := i) hin
      refine' kst_range (σ := List Value × Nat × Nat × Tok × Tok) (n := wn.length - i) (fun c => (Sl, listOf c.1.toArray c.2.1) :: (Rl, listOf ur.toArray k3) :: (Tl, listOf vs.toArray k2) :: (NL, objO) :: (W, listOf ws.toArray a0) :: (P, listOf ps.toArray b0) :: (rest ++ (tl ++ own))) (fun c => [(Str.ofString "cnt_s", .int (c.2.2.1 : Nat) c.2.2.2.1)])
        (fun c => True) [] (fun pre c => MVs NL c.1 wn (Zj (fun y => y ∈ wn.take i) x (i + pre.length)) ∧ (wn.take (i + pre.length)).count x = c.2.2.1) (us, k1, 0, _, 0) (by rfl) rgX (by first | exact small_one (by omega) (by omega) (by omega) (by omega) | decide) hrs F9 (kst_newsOf N9 (by kst_inAny)) trivial (by kst_all) ?_ ?_ ?_
      · exact ⟨hQ1, hQ2⟩
      · rintro ⟨us3, k5, cn3, t3, t4⟩ pre k t u h tk own2 heq hlt2 hoff2 _ ⟨hR1, hR2⟩ F3 N3
        clear F9 N9
        (try dsimp only at hR1 hR2 F3 N3); (try dsimp only [kstB] at F3)
        try k_fold
        have hkj : k.toNat = i + pre.length := by omega
        have hk0 : 0 ≤ k := by omega
        have hjl : i + pre.length < wn.length := by omega
        have hcl : cn3 ≤ 9 := by
          have := List.count_le_length (a := x) (l := wn.take (i + pre.length))
          rw [List.length_take] at this
          omega
        have hul4 : k.toNat < us3.length := by rw [hR1.1]; omega
        obtain ⟨v3, hx3, hd3⟩ := hR1.at hjl hin
        rw [← hkj] at hx3
        k_with "subscriptTail" => (refine unhold ?_)
        try k_fold
        k_steps
        (rename Fr _ _ _ _ => F4); (rename News _ _ _ _ => N4)
        refine Hold.intro (item_litK (News.isList N4 (by k_mem)) (by omega) (by omega) hx3 ?_)
        rcases hd3 with ⟨hne, rfl⟩ | ⟨t5, rfl⟩
        · k_steps
          refine eq_obj_int (N4 (NL, objO) (by first | k_memK | simp)).1 (by show un + _ < cLine; omega) ?_
          try k_fold
          k_steps
          (rename Fr _ _ _ _ => F6); (rename News _ _ _ _ => N6)
          refine Hold.intro (kst_end ⟨us3, k5, cn3, t3, t4⟩ F6 N6 (by kst_inAny) (by kst_anyIn) (by rfl) trivial (by kst_all) (by kst_same) ?_)
          dsimp only
          obtain ⟨hS1, hS2⟩ := hR1.no hjl hne
          rw [List.length_append, List.length_singleton, ← Nat.add_assoc]
          exact ⟨hS1, by rw [hS2]; exact hR2⟩
        · k_steps
          · have hSo : ∀ p ∈ (Rl, listOf ur.toArray k3) :: (Tl, listOf vs.toArray k2) :: (NL, objO) :: (W, listOf ws.toArray a0) :: (P, listOf ps.toArray b0) :: (rest ++ (tl ++ own) ++ own2), p.1 ≠ Sl := by
              intro p hp
              simp only [List.mem_cons, List.mem_append] at hp
              rcases hp with rfl | rfl | rfl | rfl | rfl | (hp | hp | hp) | hp
              · exact Nat.ne_of_gt lR.2.2.2.2.1
              · exact Nat.ne_of_gt lT.1
              · exact Nat.ne_of_gt l1.2.2.2.1
              · exact Nat.ne_of_lt lS.1
              · exact Nat.ne_of_lt lS.2.1
              · exact Nat.ne_of_lt (kst_ltOf lS.2.2 p hp)
              · exact hoff p (List.mem_append_left _ hp) _ (by first | k_memK | simp)
              · exact hoff p (List.mem_append_right _ hp) _ (by first | k_memK | simp)
              · exact hoff2 p hp _ (by first | k_memK | simp)
            (rename Fr _ _ _ _ => F4); (rename News _ _ _ _ => N4)
            rename wn.getD (i + pre.length) 0 = x => hyx
            refine set_first F4 (kst_newsOf N4 (by kst_inAny)) hSo hk0 hul4 (by omega) ?_
            intro h' F' N'
            rw [hkj] at N'
            try k_fold
            k_steps
            (rename Fr _ _ _ _ => F6); (rename News _ _ _ _ => N6)
            refine Hold.intro (kst_end ⟨us3.set (i + pre.length) (.ref NL), k5, cn3 + 1, _, t4⟩ F6 N6 (by kst_inAny) (by kst_anyIn) (by rfl) trivial (by kst_all) (by kst_same) ?_)
            dsimp only
            obtain ⟨hS1, hS2⟩ := hR1.yes hjl hyx
            rw [List.length_append, List.length_singleton, ← Nat.add_assoc]
            exact ⟨hS1, by rw [hS2, hR2]⟩
          · (rename Fr _ _ _ _ => F6); (rename News _ _ _ _ => N6)
            rename wn.getD (i + pre.length) 0 ≠ x => hyx
            refine Hold.intro (kst_end ⟨us3, k5, cn3, t3, t4⟩ F6 N6 (by kst_inAny) (by kst_anyIn) (by rfl) trivial (by kst_all) (by kst_same) ?_)
            dsimp only
            obtain ⟨hS1, hS2⟩ := hR1.no hjl hyx
            rw [List.length_append, List.length_singleton, ← Nat.add_assoc]
            exact ⟨hS1, by rw [hS2]; exact hR2⟩
      · rintro ⟨us3, k5, cn3, t3, t4⟩ u h tk2 _ ⟨hR1, hR2⟩ F3 N3
        clear F9 N9
        (try dsimp only at hR1 hR2 F3 N3); (try dsimp only [kstB] at F3)
        try k_fold
        rw [rangeKs_length, show i + (wn.length - i) = wn.length by omega] at hR1 hR2
        have hcn3 : cn3 ≤ 9 := by
          have := List.count_le_length (a := x) (l := wn.take wn.length)
          rw [List.length_take] at this
          omega
        k_with "call type:enumerate" => (refine unhold ?_)
        try k_fold
        k_steps
        refine Hold.intro ?_
        refine For_enum ?_
        try k_fold
        k_steps
        (rename Fr _ _ _ _ => F9); (rename News _ _ _ _ => N9)
        refine Hold.intro ?_
        obtain ⟨hT1, hT2⟩ := hP2.first (x := x) (j := 0) (by rw [List.take_zero]; exact List.not_mem_nil)
        refine' enum_st (σ := List Value × Nat × Nat × Tok) (n := pn.length)
          (fun c => [(Tl, listOf c.1.toArray c.2.1)]) ((Rl, listOf ur.toArray k3) :: (Sl, listOf us3.toArray k5) :: (NL, objO) :: (W, listOf ws.toArray a0) :: (P, listOf ps.toArray b0) :: (rest ++ (tl ++ own))) (fun c => [(Str.ofString "cnt_t", .int (c.2.2.1 : Nat) c.2.2.2)])
          (fun tl c => True) [Str.ofString "other_elem"]
          (fun j c => MVs NL c.1 pn (Zj (fun y => y ∈ wn.take i) x j) ∧ (pn.take j).count x = c.2.2.1) (Tl :: Rl :: Sl :: NL :: W :: P :: (rest ++ (tl ++ own)).map (·.1)) (fun c => c.1.toArray) (vs, k2, 0, _) rfl rfl rfl rfl F9 N9 ?_ (fun c => rfl) trivial (by kst_all) ⟨hT1, hT2⟩ (fun c => ⟨c.2.1, List.mem_cons_self⟩) (fun i c h => by simpa using h.1.1) ?_ ?_ (by with_unfolding_all passes_own)
        · kst_inAny
        · rintro ⟨vs4, k6, cn4, t6⟩ tl2 j t7 v7 u7 h7 tk7 own2 hj hv7 hsep2 hoff2 _ ⟨hU1, hU2⟩ F4 N4
          clear F9 N9
          try dsimp only at hv7 hU1 hU2 F4 N4
          try dsimp only [kstB] at F4
          (try dsimp only [List.nil_append, List.cons_append] at N4); (try simp only [List.append_nil] at N4)
          try k_fold
          have hcl : cn4 ≤ 9 := by
            have := List.count_le_length (a := x) (l := pn.take j)
            rw [List.length_take] at this
            omega
          obtain ⟨v', hv', hd7⟩ := hU1.at hj hin
          obtain rfl : v7 = v' := by
            have hv2 : vs4[j]? = some v7 := by simpa using hv7
            rw [hv2] at hv'; exact Option.some.inj hv'
          have hul4 : j < vs4.length := by rw [hU1.1]; exact hj
          rcases hd7 with ⟨hne, rfl⟩ | ⟨t5, rfl⟩
          · k_steps
            refine eq_obj_int (N4 (NL, objO) (by first | k_memK | simp)).1 (by show un + _ < cLine; omega) ?_
            try k_fold
            k_steps
            (rename Fr _ _ _ _ => F6); (rename News _ _ _ _ => N6)
            refine Hold.intro (enum_end ⟨vs4, k6, cn4, t6⟩ [] hsep2 F6 N6 (by kst_inAny) (by kst_anyIn) (by rfl) (fun _ h => nomatch h) (fun _ h => nomatch h) (by kst_all) (by kst_same) trivial ?_)
            dsimp only
            obtain ⟨hS1, hS2⟩ := hU1.no hj hne
            exact ⟨hS1, by rw [hS2]; exact hU2⟩
          · k_steps
            · have hSo : ∀ p ∈ (Rl, listOf ur.toArray k3) :: (Sl, listOf us3.toArray k5) :: (NL, objO) :: (W, listOf ws.toArray a0) :: (P, listOf ps.toArray b0) :: (rest ++ (tl ++ own) ++ (tl2 ++ own2)), p.1 ≠ Tl := by
                intro p hp
                simp only [List.mem_cons, List.mem_append] at hp
                rcases hp with rfl | rfl | rfl | rfl | rfl | (hp | hp | hp) | hp | hp
                · exact Nat.ne_of_gt lR.2.2.2.1
                · exact Nat.ne_of_lt lT.1
                · exact Nat.ne_of_gt l1.2.2.1
                · exact Nat.ne_of_lt lT.2.1
                · exact Nat.ne_of_lt lT.2.2.1
                · exact Nat.ne_of_lt (kst_ltOf lT.2.2.2 p hp)
                · exact hoff p (List.mem_append_left _ hp) _ (by first | k_memK | simp)
                · exact hoff p (List.mem_append_right _ hp) _ (by first | k_memK | simp)
                · exact hoff2 p (List.mem_append_left _ hp) _ (by first | k_memK | simp)
                · exact hoff2 p (List.mem_append_right _ hp) _ (by first | k_memK | simp)
              (rename Fr _ _ _ _ => F4); (rename News _ _ _ _ => N4)
              rename pn.getD j 0 = x => hyx
              refine set_first F4 (kst_newsOf N4 (by kst_inAny)) hSo (by omega) (by omega) (by omega) ?_
              intro h' F' N'
              rw [show ((j : Int)).toNat = j by omega] at N'
              try k_fold
              k_steps
              (rename Fr _ _ _ _ => F6); (rename News _ _ _ _ => N6)
              refine Hold.intro (enum_end ⟨vs4.set j (.ref NL), k6, cn4 + 1, _⟩ [] hsep2 F6 N6 (by kst_inAny) (by kst_anyIn) (by rfl) (fun _ h => nomatch h) (fun _ h => nomatch h) (by kst_all) (by kst_same) trivial ?_)
              dsimp only
              obtain ⟨hS1, hS2⟩ := hU1.yes hj hyx
              exact ⟨hS1, by rw [hS2, hU2]⟩
            · (rename Fr _ _ _ _ => F6); (rename News _ _ _ _ => N6)
              rename pn.getD j 0 ≠ x => hyx
              refine Hold.intro (enum_end ⟨vs4, k6, cn4, t6⟩ [] hsep2 F6 N6 (by kst_inAny) (by kst_anyIn) (by rfl) (fun _ h => nomatch h) (fun _ h => nomatch h) (by kst_all) (by kst_same) trivial ?_)
              dsimp only
              obtain ⟨hS1, hS2⟩ := hU1.no hj hyx
              exact ⟨hS1, by rw [hS2]; exact hU2⟩
        · rintro ⟨vs4, k6, cn4, t6⟩ tl2 u7 h7 tk7 hoff2 _ ⟨hU1, hU2⟩ F4 N4
          clear F9 N9
          try dsimp only at hU1 hU2 F4 N4
          try dsimp only [kstB] at F4
          (try dsimp only [List.nil_append, List.cons_append] at N4); (try simp only [List.append_nil] at N4)
          try k_fold
          have hcn4 : cn4 ≤ 9 := by
            have := List.count_le_length (a := x) (l := pn.take pn.length)
            rw [List.length_take] at this
            omega
          rw [List.take_length] at hR2 hU2
          have hrl : rs.length ≤ i := by rw [hP3]; exact cdUp_len _ (cdStep_len wn pn) i
          have hurl := hfa.length
          have hsn : cdUp (cdStep wn pn) (i + 1) = rs ++ if cn3 = cn4 then [] else [((cn3 : Int), (cn4 : Int), x)] := by
            rw [cdUp_succ, ← hP3, cdStep, hxe, hR2, hU2]
            by_cases hq : cn3 = cn4
            · rw [if_pos (.inr hq), if_pos hq]
            · rw [if_neg (fun h => h.elim hin hq), if_neg hq]
          have hB : ∀ y, (y ∈ wn.take i ∨ y = x) ↔ y ∈ wn.take (i + 1) := by
            intro y
            rw [List.take_add_one, List.getElem?_eq_getElem hi, List.mem_append, ← getD_lt hi 0, hxe]
            simp only [Option.toList_some, List.mem_singleton]
          have hV1 := hR1.last.congr (Z' := fun _ y => y ∈ wn.take (i + 1)) fun k hk => hB _
          have hV2 := hU1.last.congr (Z' := fun _ y => y ∈ wn.take (i + 1)) fun k hk => hB _
          try k_fold
          k_steps
          · rename (cn3 : Int) ≠ (cn4 : Int) => hne
            refine Hold.intro ?_
            (rename News _ _ _ _ => N5)
            refine' Ctr.use (mis_c w) ?k1 ?k2 ?k3 ?k4 ?k5 ?k6 ?k7 ?k8 ?_
            (case k1 => k_asm); (case k2 => k_asm); (case k3 => k_asm); (case k5 => k_asm); (case k6 => first | exact rfl | assumption); (case k7 => ktr_room); (case k8 => ktr_units)
            (case k4 => exact N5)
            rintro r9 n9 h9 t9 F6 N6 ⟨D, dx, rfl, rfl, lD⟩
            have hDR : @LT.lt Nat _ Rl D := lD (Rl, listOf ur.toArray k3) (by first | k_memK | simp)
            have hDall : ∀ p ∈ (Rl, listOf ur.toArray k3) :: (Tl, listOf vs4.toArray k6) :: (Sl, listOf us3.toArray k5) :: (NL, objO) :: (W, listOf ws.toArray a0) :: (P, listOf ps.toArray b0) :: (rest ++ (tl ++ own)), @LT.lt Nat _ p.1 D := sub_fwd lD (by kst_inAny)
            have hRo : ∀ p ∈ rest ++ (tl ++ own), p.1 ≠ Rl := by
              intro p hp
              simp only [List.mem_append] at hp
              rcases hp with hp | hp | hp
              · exact Nat.ne_of_lt (kst_ltOf lR.2.2.2.2.2.2.2 p hp)
              · exact hoff p (List.mem_append_left _ hp) _ (by first | k_memK | simp)
              · exact hoff p (List.mem_append_right _ hp) _ (by first | k_memK | simp)
            have N7 := kst_newsOf (l' := (Rl, listOf ur.toArray k3) :: (D, misObj dx (.int cn3 t3) (.int cn4 t6) (.int x tv)) :: (Tl, listOf vs4.toArray k6) :: (Sl, listOf us3.toArray k5) :: (NL, objO) :: (W, listOf ws.toArray a0) :: (P, listOf ps.toArray b0) :: (rest ++ (tl ++ own))) N6 (by
              kst_inAny)
            clear N6 N5 lD
            try k_fold
            k_steps
            (rename Fr _ _ _ _ => F8); (rename News _ _ _ _ => N8)
            simp only [List.push_toArray] at N8
            refine Hold.intro (enum_end ⟨us3, k5, vs4, k6, ur ++ [.ref D], k3 + 1, rs ++ [((cn3 : Int), (cn4 : Int), x)]⟩ [(D, misObj dx (.int cn3 t3) (.int cn4 t6) (.int x tv))] hsep F8 N8 ?_ ?_ (by rfl) ?_ ?_ (by kst_all) (by kst_same) ?_ ?_)
            · kst_inAny
            · kst_anyIn
            · intro q hq b hb e
              rw [List.mem_singleton.mp hq] at e
              have hbD : @LT.lt Nat _ b D := by
                simp only [List.mem_cons, List.mem_map] at hb
                rcases hb with h | h | h | h | h | h | ⟨p, hp, h⟩
                · rw [h]; exact hDR
                · rw [h]; exact hDall (Tl, listOf vs4.toArray k6) (by k_memK)
                · rw [h]; exact hDall (Sl, listOf us3.toArray k5) (by k_memK)
                · rw [h]; exact hDall (NL, objO) (by k_memK)
                · rw [h]; exact hDall (W, listOf ws.toArray a0) (by k_memK)
                · rw [h]; exact hDall (P, listOf ps.toArray b0) (by k_memK)
                · rw [← h]; exact hDall p (by kst_mem)
              exact absurd e (Nat.ne_of_lt hbD)
            · intro q hq p hp
              rw [List.mem_singleton.mp hq]
              exact Nat.ne_of_lt (hDall p (by kst_mem))
            · exact (hfa.mono kd_sub).snoc ⟨D, dx, t3, t6, tv, rfl, kd_new List.mem_cons_self⟩
            · exact ⟨hV1, hV2, by rw [hsn, if_neg (fun e => hne (by rw [e]))]⟩
          · rename (cn3 : Int) = (cn4 : Int) => heq
            (rename Fr _ _ _ _ => F8); (rename News _ _ _ _ => N8)
            refine Hold.intro (enum_end ⟨us3, k5, vs4, k6, ur, k3, rs⟩ [] hsep F8 N8 (by kst_inAny) (by kst_anyIn) (by rfl) (fun _ h => nomatch h) (fun _ h => nomatch h) (by kst_all) (by kst_same) hfa ?_)
            exact ⟨hV1, hV2, by rw [hsn, if_pos (Int.ofNat.inj heq), List.append_nil]⟩
  · rintro ⟨us, k1, vs, k2, ur, k3, rs⟩ tl u h tk hoff hfa ⟨hP1, hP2, hP3⟩ F2 N2
    clear F9 N9
    try dsimp only at hP1 hP2 hP3 hfa F2 N2
    try dsimp only [kstB] at F2
    (try dsimp only [List.nil_append, List.cons_append] at N2); (try simp only [List.append_nil] at N2)
    try k_fold
    k_with "call type:enumerate" => (refine unhold ?_)
    try k_fold
    k_steps
    refine Hold.intro ?_
    refine For_enum ?_
    try k_fold
    k_steps
    (rename Fr _ _ _ _ => F9); (rename News _ _ _ _ => N9)
    refine Hold.intro ?_
    refine' enum_st (σ := List Value × Nat × List Value × Nat × List Row) (n := pn.length)
      (fun c => [(Rl, listOf c.1.toArray c.2.1), (Tl, listOf c.2.2.1.toArray c.2.2.2.1)]) ((Sl, listOf us.toArray k1) :: (NL, objO) :: (W, listOf ws.toArray a0) :: (P, listOf ps.toArray b0) :: (rest ++ tl)) (fun _ => [])
      (fun l c => MisAll l c.1 c.2.2.2.2) [Str.ofString "elem", Str.ofString "cnt_t", Str.ofString "j", Str.ofString "diff"]
      (fun i c => MVs NL c.2.2.1 pn (fun _ y => y ∈ wn ∨ y ∈ pn.take i) ∧ c.2.2.2.2 = cdUp (cdStep wn pn) wn.length ++ cdUp (cdStep2 wn pn) i) (Rl :: Tl :: Sl :: NL :: W :: P :: (rest ++ tl).map (·.1)) (fun c => c.2.2.1.toArray) (ur, k3, vs, k2, rs) rfl rfl rfl rfl F9 N9 ?_ (fun c => rfl) ?_ (fun _ h => nomatch h) ?_ (fun c => ⟨c.2.2.2.1, List.mem_cons_of_mem _ List.mem_cons_self⟩) (fun i c h => by simpa using h.1.1) ?_ ?_ (by with_unfolding_all passes_own)
    · kst_inAny
    · exact hfa.mono (by kst_inAny)
    · refine ⟨hP2.congr fun k hk => by simp, ?_⟩
      rw [hP3]
      exact (List.append_nil _).symm
    · rintro ⟨ur, k3, vs, k2, rs⟩ tl2 i t v u h tk own hi hv hsep2 hoff2 hfa ⟨hP2, hP3⟩ F2 N2
      clear F9 N9
      try dsimp only at hv hP2 hP3 hfa F2 N2
      try dsimp only [kstB] at F2
      (try dsimp only [List.nil_append, List.cons_append] at N2); (try simp only [List.append_nil] at N2)
      try k_fold
      obtain ⟨v', hv', hd⟩ := hP2.2 i hi
      obtain rfl : v = v' := by
        have hv2 : vs[i]? = some v := by simpa using hv
        rw [hv2] at hv'; exact Option.some.inj hv'
      rcases hd with ⟨hin, rfl⟩ | ⟨hin, tv, rfl⟩
      · k_steps
        refine Hold.intro ?_
        (rename Fr _ _ _ _ => F4); (rename News _ _ _ _ => N4)
        have hti : ∀ y, (y ∈ wn ∨ y ∈ pn.take i) ↔ (y ∈ wn ∨ y ∈ pn.take (i + 1)) := by
          intro y
          rw [List.take_add_one, List.getElem?_eq_getElem hi, List.mem_append, ← getD_lt hi 0]
          simp only [Option.toList_some, List.mem_singleton]
          exact ⟨fun h => h.imp id .inl, fun h => h.elim .inl fun h => h.elim .inr fun e => e ▸ hin⟩
        refine enum_end ⟨ur, k3, vs, k2, rs⟩ [] hsep2 F4 N4 (by kst_inAny) (by kst_anyIn) (by rfl) (fun _ h => nomatch h) (fun _ h => nomatch h) (by kst_all) (by kst_same) hfa ?_
        exact ⟨hP2.congr fun k hk => hti _, by rw [cdUp_succ, cdStep2, if_pos hin, List.append_nil]; exact hP3⟩
      · k_steps
        refine is_int_ref ?_
        try k_fold
        k_steps
        (rename Fr _ _ _ _ => F9); (rename News _ _ _ _ => N9); rename IsRange _ _ _ _ _ _ _ _ => rgX
        refine Hold.intro ?_
        have hrs : Builtin.Range.rangeSize (i : Int) (pn.length : Int) 1 = ((pn.length - i : Nat) : Int) := by
          simp [Builtin.Range.rangeSize]
          omega
        generalize hxe : pn.getD i 0 = x at *
        obtain ⟨hQ1, hQ2⟩ := hP2.first (x := x) (j := i) (fun h => hin (.inr h))
        refine' kst_range (σ := List Value × Nat × Nat × Tok × Tok) (n := pn.length - i) (fun c => (Tl, listOf c.1.toArray c.2.1) :: (Rl, listOf ur.toArray k3) :: (Sl, listOf us.toArray k1) :: (NL, objO) :: (W, listOf ws.toArray a0) :: (P, listOf ps.toArray b0) :: (rest ++ tl ++ (tl2 ++ own))) (fun c => [(Str.ofString "cnt_t", .int (c.2.2.1 : Nat) c.2.2.2.1)])
          (fun c => True) [] (fun pre c => MVs NL c.1 pn (Zj (fun y => y ∈ wn ∨ y ∈ pn.take i) x (i + pre.length)) ∧ (pn.take (i + pre.length)).count x = c.2.2.1) (vs, k2, 0, _, 0) (by rfl) rgX (by first | exact small_one (by omega) (by omega) (by omega) (by omega) | decide) hrs F9 (kst_newsOf N9 (by kst_inAny)) trivial (by kst_all) ⟨hQ1, hQ2⟩ ?_ ?_
        · rintro ⟨vs4, k6, cn4, t6, t7⟩ pre k t u h tk own2 heq hlt2 hoff3 _ ⟨hR1, hR2⟩ F3 N3
          clear F9 N9
          (try dsimp only at hR1 hR2 F3 N3); (try dsimp only [kstB] at F3)
          try k_fold
          have hkj : k.toNat = i + pre.length := by omega
          have hk0 : 0 ≤ k := by omega
          have hjl : i + pre.length < pn.length := by omega
          have hcl : cn4 ≤ 9 := by
            have := List.count_le_length (a := x) (l := pn.take (i + pre.length))
            rw [List.length_take] at this
            omega
          have hul4 : k.toNat < vs4.length := by rw [hR1.1]; omega
          obtain ⟨v3, hx3, hd3⟩ := hR1.at hjl hin
          rw [← hkj] at hx3
          k_with "subscriptTail" => (refine unhold ?_)
          try k_fold
          k_steps
          (rename Fr _ _ _ _ => F4); (rename News _ _ _ _ => N4)
          refine Hold.intro (item_litK (News.isList N4 (by k_mem)) (by omega) (by omega) hx3 ?_)
          rcases hd3 with ⟨hne, rfl⟩ | ⟨t5, rfl⟩
          · k_steps
            refine eq_obj_int (N4 (NL, objO) (by first | k_memK | simp)).1 (by show un + _ < cLine; omega) ?_
            try k_fold
            k_steps
            (rename Fr _ _ _ _ => F6); (rename News _ _ _ _ => N6)
            refine Hold.intro (kst_end ⟨vs4, k6, cn4, t6, t7⟩ F6 N6 (by kst_inAny) (by kst_anyIn) (by rfl) trivial (by kst_all) (by kst_same) ?_)
            dsimp only
            obtain ⟨hS1, hS2⟩ := hR1.no hjl hne
            rw [List.length_append, List.length_singleton, ← Nat.add_assoc]
            exact ⟨hS1, by rw [hS2]; exact hR2⟩
          · k_steps
            · have hSo : ∀ p ∈ (Rl, listOf ur.toArray k3) :: (Sl, listOf us.toArray k1) :: (NL, objO) :: (W, listOf ws.toArray a0) :: (P, listOf ps.toArray b0) :: (rest ++ tl ++ (tl2 ++ own) ++ own2), p.1 ≠ Tl := by
                intro p hp
                simp only [List.mem_cons, List.mem_append] at hp
                rcases hp with rfl | rfl | rfl | rfl | rfl | ((hp | hp) | (hp | hp)) | hp
                · exact Nat.ne_of_gt lR.2.2.2.1
                · exact Nat.ne_of_lt lT.1
                · exact Nat.ne_of_gt l1.2.2.1
                · exact Nat.ne_of_lt lT.2.1
                · exact Nat.ne_of_lt lT.2.2.1
                · exact Nat.ne_of_lt (kst_ltOf lT.2.2.2 p hp)
                · exact hoff p hp _ (by first | k_memK | simp)
                · exact hoff2 p (List.mem_append_left _ hp) _ (by first | k_memK | simp)
                · exact hoff2 p (List.mem_append_right _ hp) _ (by first | k_memK | simp)
                · exact hoff3 p hp _ (by first | k_memK | simp)
              (rename Fr _ _ _ _ => F4); (rename News _ _ _ _ => N4)
              rename pn.getD (i + pre.length) 0 = x => hyx
              refine set_first F4 (kst_newsOf N4 (by kst_inAny)) hSo hk0 hul4 (by omega) ?_
              intro h' F' N'
              rw [hkj] at N'
              try k_fold
              k_steps
              (rename Fr _ _ _ _ => F6); (rename News _ _ _ _ => N6)
              refine Hold.intro (kst_end ⟨vs4.set (i + pre.length) (.ref NL), k6, cn4 + 1, _, t7⟩ F6 N6 (by kst_inAny) (by kst_anyIn) (by rfl) trivial (by kst_all) (by kst_same) ?_)
              dsimp only
              obtain ⟨hS1, hS2⟩ := hR1.yes hjl hyx
              rw [List.length_append, List.length_singleton, ← Nat.add_assoc]
              exact ⟨hS1, by rw [hS2, hR2]⟩
            · (rename Fr _ _ _ _ => F6); (rename News _ _ _ _ => N6)
              rename pn.getD (i + pre.length) 0 ≠ x => hyx
              refine Hold.intro (kst_end ⟨vs4, k6, cn4, t6, t7⟩ F6 N6 (by kst_inAny) (by kst_anyIn) (by rfl) trivial (by kst_all) (by kst_same) ?_)
              dsimp only
              obtain ⟨hS1, hS2⟩ := hR1.no hjl hyx
              rw [List.length_append, List.length_singleton, ← Nat.add_assoc]
              exact ⟨hS1, by rw [hS2]; exact hR2⟩
        · rintro ⟨vs4, k6, cn4, t6, t7⟩ u h tk2 _ ⟨hU1, hU2⟩ F3 N3
          clear F9 N9
          (try dsimp only at hU1 hU2 F3 N3); (try dsimp only [kstB] at F3)
          try k_fold
          rw [rangeKs_length, show i + (pn.length - i) = pn.length by omega] at hU1 hU2
          have hcn4 : cn4 ≤ 9 := by
            have := List.count_le_length (a := x) (l := pn.take pn.length)
            rw [List.length_take] at this
            omega
          rw [List.take_length] at hU2
          have hrl : rs.length ≤ wn.length + i := by
            rw [hP3, List.length_append]
            have h1 := cdUp_len _ (cdStep_len wn pn) wn.length
            have h2 := cdUp_len _ (cdStep2_len wn pn) i
            omega
          have hurl := hfa.length
          have hsn : cdUp (cdStep2 wn pn) (i + 1) = cdUp (cdStep2 wn pn) i ++ [(0, (cn4 : Int), x)] := by
            rw [cdUp_succ, cdStep2, hxe, hU2, if_neg hin]
          have hB : ∀ y, ((y ∈ wn ∨ y ∈ pn.take i) ∨ y = x) ↔ (y ∈ wn ∨ y ∈ pn.take (i + 1)) := by
            intro y
            rw [List.take_add_one, List.getElem?_eq_getElem hi, List.mem_append, ← getD_lt hi 0, hxe]
            simp only [Option.toList_some, List.mem_singleton, or_assoc]
          have hV2 := hU1.last.congr (Z' := fun _ y => y ∈ wn ∨ y ∈ pn.take (i + 1)) fun k hk => hB _
          try k_fold
          k_steps
          refine Hold.intro ?_
          (rename News _ _ _ _ => N5)
          refine' Ctr.use (mis_c w) ?k1 ?k2 ?k3 ?k4 ?k5 ?k6 ?k7 ?k8 ?_
          (case k1 => k_asm); (case k2 => k_asm); (case k3 => k_asm); (case k5 => k_asm); (case k6 => first | exact rfl | assumption); (case k7 => ktr_room); (case k8 => ktr_units)
          (case k4 => exact N5)
          rintro r9 n9 h9 t9 F6 N6 ⟨D, dx, rfl, rfl, lD⟩
          have hDR : @LT.lt Nat _ Rl D := lD (Rl, listOf ur.toArray k3) (by first | k_memK | simp)
          have hDall : ∀ p ∈ (Rl, listOf ur.toArray k3) :: (Tl, listOf vs4.toArray k6) :: (Sl, listOf us.toArray k1) :: (NL, objO) :: (W, listOf ws.toArray a0) :: (P, listOf ps.toArray b0) :: (rest ++ tl ++ (tl2 ++ own)), @LT.lt Nat _ p.1 D := sub_fwd lD (by kst_inAny)
          have hRo : ∀ p ∈ rest ++ tl ++ (tl2 ++ own), p.1 ≠ Rl := by
            intro p hp
            simp only [List.mem_append] at hp
            rcases hp with (hp | hp) | hp | hp
            · exact Nat.ne_of_lt (kst_ltOf lR.2.2.2.2.2.2.2 p hp)
            · exact hoff p hp _ (by first | k_memK | simp)
            · exact hoff2 p (List.mem_append_left _ hp) _ (by first | k_memK | simp)
            · exact hoff2 p (List.mem_append_right _ hp) _ (by first | k_memK | simp)
          have N7 := kst_newsOf (l' := (Rl, listOf ur.toArray k3) :: (D, misObj dx (.int 0 tk2) (.int cn4 t6) (.int x tv)) :: (Tl, listOf vs4.toArray k6) :: (Sl, listOf us.toArray k1) :: (NL, objO) :: (W, listOf ws.toArray a0) :: (P, listOf ps.toArray b0) :: (rest ++ tl ++ (tl2 ++ own))) N6 (by
            kst_inAny)
          clear N6 N5 lD
          try k_fold
          k_steps
          (rename Fr _ _ _ _ => F8); (rename News _ _ _ _ => N8)
          simp only [List.push_toArray] at N8
          refine Hold.intro (enum_end ⟨ur ++ [.ref D], k3 + 1, vs4, k6, rs ++ [(0, (cn4 : Int), x)]⟩ [(D, misObj dx (.int 0 tk2) (.int cn4 t6) (.int x tv))] hsep2 F8 N8 ?_ ?_ (by rfl) ?_ ?_ (by kst_all) (by kst_same) ?_ ?_)
          · kst_inAny
          · kst_anyIn
          · intro q hq b hb e
            rw [List.mem_singleton.mp hq] at e
            have hbD : @LT.lt Nat _ b D := by
              simp only [List.mem_cons, List.mem_map] at hb
              rcases hb with h | h | h | h | h | h | ⟨p, hp, h⟩
              · rw [h]; exact hDR
              · rw [h]; exact hDall (Tl, listOf vs4.toArray k6) (by k_memK)
              · rw [h]; exact hDall (Sl, listOf us.toArray k1) (by k_memK)
              · rw [h]; exact hDall (NL, objO) (by k_memK)
              · rw [h]; exact hDall (W, listOf ws.toArray a0) (by k_memK)
              · rw [h]; exact hDall (P, listOf ps.toArray b0) (by k_memK)
              · rw [← h]
                exact hDall p ((by kst_inAny : ∀ p ∈ rest ++ tl, p ∈ _) p hp)
            exact absurd e (Nat.ne_of_lt hbD)
          · intro q hq p hp
            rw [List.mem_singleton.mp hq]
            exact Nat.ne_of_lt (hDall p (by kst_mem))
          · exact (hfa.mono kd_sub).snoc ⟨D, dx, tk2, t6, tv, rfl, kd_new List.mem_cons_self⟩
          · exact ⟨hV2, by rw [hsn, hP3, List.append_assoc]⟩
    · rintro ⟨ur, k3, vs, k2, rs⟩ tl2 u h tk hoff2 hfa ⟨hP2, hP3⟩ F2 N2
      clear F9 N9
      try dsimp only at hP2 hP3 hfa F2 N2
      try dsimp only [kstB] at F2
      (try dsimp only [List.nil_append, List.cons_append] at N2); (try simp only [List.append_nil] at N2)
      try k_fold
      k_steps
      (rename Fr _ _ _ _ => F8); (rename News _ _ _ _ => N8)
      refine hret _ _ _ _ F8 (kst_newsOf N8 ?_) ⟨Rl, ur, k3, (Sl, listOf us.toArray k1) :: (NL, objO) :: (tl ++ tl2), rfl, rfl, ?_⟩
      · kst_inAny
      · rw [hP3] at hfa
        exact hfa.mono (by kst_inAny)
end
section
section
open PyProof.Rows.LCg PyProof.Rows.LCt
variable {prog : Program} {w : World} {A : Around} {E : Value → Shared → Prop} {s : Shared} {h₀ : Heap} {L : Addr} {m : Str → Option Value} {env : Env}
theorem comp_map {elt : Expr} {x : Str} {scope : Scope} {cl : List (Str × Addr)} {Fin : Shared → List Value → List (Addr × Obj) → Prop} {ax : Addr} {us : List Value} {ns : List Int} {k : Nat} {news : List (Addr × Obj)} {s₁ : Shared} (f : Int → Int)
    (hh : A.handled = none) (F : Fr h₀ L s₁.heap m) (N : News h₀ L s₁.heap news) (hm : (ax, listOf us.toArray k) ∈ news) (hi : IntsAre us ns) (hsz : ns.length ≤ 100)
    (turn : ∀ n t I oI C oC D ys m₂ g h tk (E' : Value → Shared → Prop), n ∈ ns → NsObj oC m₂ → m₂ x = some (.int n t) → Fr h₀ L h m → News h₀ L h ((I, oI) :: (C, oC) :: (D, lst ys) :: news) → Off3 I C D news → ((@Ne Nat I C) ∧ (@Ne Nat I D) ∧ (@Ne Nat C D)) → SrcAt h₀ ax us.toArray news →
      wpAny (model prog w) A (eval elt (compEnvC scope cl C env)) (CompEnd h₀ L m { { s₁ with heap := g } with heap := h, toks := tk } I oI C oC D (lst ys) (SrcAt h₀ ax us.toArray) (fun y news' => news' = news ∧ ∃ t, y = .int (f n) t)) E' { { s₁ with heap := g } with heap := h, toks := tk })
    (fin : ∀ g ys, IntsAre ys (ns.map f) → Fin { s₁ with heap := g } ys news) : CompSrc prog w A h₀ L m env elt x scope cl Fin (.ref ax) s₁ := by
  have hl := hi.length
  refine CompSrc.ledger hh F N hm (by rw [List.size_toArray, sizeLine_eq]; omega) ?_
  intro g
  refine comp_ind (n := us.toArray.size) (fun j ys nx => nx = news ∧ IntsAre ys ((ns.take j).map f)) ?_ ?_ _ 0 [] _ (Nat.zero_add _) ⟨rfl, .nil⟩
  · rintro j ys nx v I oI C oC D m₂ h tk E' hj ⟨rfl, hys⟩ hP hC hx F' N' off ne
    rw [List.size_toArray] at hj
    have hj2 : j < ns.length := by omega
    obtain ⟨t, e⟩ := hi.get j ns[j] (by simp [hj2])
    have hv : v = .int ns[j] t := by
      have hP' : us[j]? = some v := by simpa using hP
      rw [e] at hP'; exact (Option.some.inj hP').symm
    subst hv
    have hS : SrcAt h₀ ax us.toArray nx := .inr ⟨_, hm, rfl, _, rfl⟩
    refine wpAny_mono (turn ns[j] t I oI C oC D ys m₂ g h tk E' (List.getElem_mem hj2) hC hx F' N' off ne hS) (fun y s₂ q => ?_) fun _ _ e => e
    obtain ⟨h', tk', nw, e, F2, N2, off2, hS2, rfl, t2, rfl⟩ := q
    refine ⟨h', tk', nw, e, F2, N2, off2, hS2, rfl, ?_⟩
    have htk : ns.take (j + 1) = ns.take j ++ [ns[j]] := by rw [List.take_add_one, List.getElem?_eq_getElem hj2]; rfl
    rw [htk, List.map_append]
    exact IntsAre.append hys (.cons _ _ .nil)
  · rintro ys nx ⟨rfl, hys⟩
    rw [List.size_toArray, List.take_of_length_le (by omega)] at hys
    exact fin g ys hys
theorem comp_range_if {ct elt : Expr} {x : Str} {scope : Scope} {cl : List (Str × Addr)} {Fin : Shared → List Value → List (Addr × Obj) → Prop} {r : Addr} {b : Int} {t u v : Tok} {n : Nat} {news : List (Addr × Obj)} {s₁ : Shared} (p : Nat → Bool)
    (hh : A.handled = none) (F : Fr h₀ L s₁.heap m) (N : News h₀ L s₁.heap news) (hr : IsRange s₁.heap r 0 b 1 t u v) (hsm : Builtin.Range.small 0 b 1 = true) (hn : Builtin.Range.rangeSize 0 b 1 = ((n : Nat) : Int)) (hsz : n ≤ 100)
    (turn : ∀ (i : Nat) t I oI C oC D ys m₂ g h tk (E' : Value → Shared → Prop), i < n → NsObj oC m₂ → m₂ x = some (.int (i : Int) t) → Fr h₀ L h m → News h₀ L h ((I, oI) :: (C, oC) :: (D, lst ys) :: news) → Off3 I C D news → ((@Ne Nat I C) ∧ (@Ne Nat I D) ∧ (@Ne Nat C D)) →
      wpAny (model prog w) A (isTrue ct (compEnvC scope cl C env) (eval ct (compEnvC scope cl C env))) (fun ok s' => if ok = true then
        wpAny (model prog w) A (eval elt (compEnvC scope cl C env)) (CompEnd h₀ L m { { s₁ with heap := g } with heap := h, toks := tk } I oI C oC D (lst ys) (fun _ => True) (fun y news' => news' = news ∧ p i = true ∧ ∃ t, y = .int (i : Int) t)) E' s'
        else CompEnd h₀ L m { { s₁ with heap := g } with heap := h, toks := tk } I oI C oC D (lst ys) (fun _ => True) (fun _ news' => news' = news ∧ p i = false) Value.none s') E' { { s₁ with heap := g } with heap := h, toks := tk })
    (fin : ∀ g ys, IntsAre ys (((List.range n).filter p).map fun (i : Nat) => (i : Int)) → Fin { s₁ with heap := g } ys news) : CompSrcT prog w A h₀ L m env ct elt x scope cl Fin (.ref r) s₁ := by
  refine CompSrcT.range hh F N hr hsm hn (by rw [sizeLine_eq]; omega) ?_
  intro g
  refine comp_indT (n := n) (fun j ys nx => nx = news ∧ IntsAre ys (((List.range j).filter p).map fun (i : Nat) => (i : Int))) ?_ ?_ _ 0 [] _ (Nat.zero_add _) ⟨rfl, .nil⟩
  · rintro j ys nx v I oI C oC D m₂ h tk E' hj ⟨rfl, hys⟩ hP hC hx F' N' off ne
    obtain ⟨t, rfl⟩ := hP
    have e0 : (0 : Int) + (j : Int) = (j : Int) := by omega
    rw [e0] at hx
    have hsn : ((List.range (j + 1)).filter p).map (fun (i : Nat) => (i : Int)) = ((List.range j).filter p).map (fun (i : Nat) => (i : Int)) ++ if p j = true then [(j : Int)] else [] := by
      rw [List.range_succ, List.filter_append, List.map_append, List.filter_cons, List.filter_nil]
      split <;> rfl
    refine wpAny_mono (turn j t I oI C oC D ys m₂ g h tk E' hj hC hx F' N' off ne) (fun b s₂ q => ?_) fun _ _ e => e
    cases b with
    | true =>
      simp only [if_true] at q ⊢
      refine wpAny_mono q (fun y s₃ q => ?_) fun _ _ e => e
      obtain ⟨h', tk', nw, e, F2, N2, off2, hS2, rfl, hp, t2, rfl⟩ := q
      refine ⟨h', tk', nw, e, F2, N2, off2, hS2, rfl, ?_⟩
      rw [hsn, if_pos hp]
      exact IntsAre.append hys (.cons _ _ .nil)
    | false =>
      simp only [Bool.false_eq_true, if_false] at q ⊢
      obtain ⟨h', tk', nw, e, F2, N2, off2, hS2, rfl, hp⟩ := q
      refine ⟨h', tk', nw, e, F2, N2, off2, hS2, rfl, ?_⟩
      rw [hsn, hp, if_neg (by decide), List.append_nil]
      exact hys
  · rintro ys nx ⟨rfl, hys⟩
    exact fin g ys hys
end
end
section
section
open PyProof.Rows.LCg PyProof.Rows.LCp
variable {prog : Program} {w : World} {A : Around} {E : Value → Shared → Prop} {s : Shared} {h₀ : Heap} {L : Addr} {m : Str → Option Value} {env : Env}
noncomputable def rowOf (r : Row) : Dat := rowDat r.1 r.2.1 r.2.2
structure RowsAt (prog : Program) (w : World) (A : Around) (K : Frag) (h₀ : Heap) (L : Addr) (m : Str → Option Value) (env : Env) (elt : PySem.Expr) (x y z : Str) (scope : Scope) (cl : List (Str × Addr)) (Q : Value → Shared → Prop) (R : Addr) (us : List Value) (k : Nat) (news : List (Addr × Obj)) (rs : List Row) (s₁ : Shared) : Prop where
  hh : A.handled = none
  inK : K.In h₀
  it : findIn K (.ref 184) "__iter__" = some (some (.builtin "tuple.__iter__"))
  sub : mroIn K 184 (.type "tuple") = some true
  fr : Fr h₀ L s₁.heap m
  nw : News h₀ L s₁.heap news
  src : (R, listOf us.toArray k) ∈ news
  rows : MisAll news us rs
  few : rs.length ≤ 100
  turn : ∀ (nx : List (Addr × Obj)) (r : Row) u1 u2 u3 I oI C oC D ys m₂ h tk (E' : Value → Shared → Prop), (∀ p ∈ news, p ∈ nx) → NsObj oC m₂ → m₂ x = some (.int r.1 u1) → m₂ y = some (.int r.2.1 u2) → m₂ z = some (.int r.2.2 u3) → Fr h₀ L h m → News h₀ L h ((I, oI) :: (C, oC) :: (D, lst ys) :: nx) → Off3 I C D nx → ((@Ne Nat I C) ∧ (@Ne Nat I D) ∧ (@Ne Nat C D)) →
    wpAny (model prog w) A (eval elt (compEnvC scope cl C env)) (CompEnd h₀ L m { s₁ with heap := h, toks := tk } I oI C oC D (lst ys) (fun nx' => (R, listOf us.toArray k) ∈ nx') (fun v nx' => (∀ p ∈ nx, p ∈ nx') ∧ DatIn nx' v (rowOf r))) E' { s₁ with heap := h, toks := tk }
  done : ∀ ys D h tk nx, (∀ p ∈ news, p ∈ nx) → DatAll nx ys (rs.map rowOf) → Fr h₀ L h m → News h₀ L h ((D, lst ys) :: nx) → (∀ p ∈ nx, p.1 ≠ D) → Q (.ref D) { s₁ with heap := h, toks := tk }
noncomputable def RowsSrc (prog : Program) (w : World) (A : Around) (K : Frag) (h₀ : Heap) (L : Addr) (m : Str → Option Value) (env : Env) (elt : PySem.Expr) (x y z : Str) (scope : Scope) (cl : List (Str × Addr)) (Q : Value → Shared → Prop) (xv : Value) (s₁ : Shared) : Prop :=
  ∃ R us k news rs, xv = .ref R ∧ RowsAt prog w A K h₀ L m env elt x y z scope cl Q R us k news rs s₁
theorem RowsSrc.intro {K : Frag} {elt : PySem.Expr} {x y z : Str} {scope : Scope} {cl : List (Str × Addr)} {Q : Value → Shared → Prop} {R : Addr} {us : List Value} {k : Nat} {news : List (Addr × Obj)} {rs : List Row} {s₁ : Shared}
    (h : RowsAt prog w A K h₀ L m env elt x y z scope cl Q R us k news rs s₁) : RowsSrc prog w A K h₀ L m env elt x y z scope cl Q (.ref R) s₁ := ⟨R, us, k, news, rs, rfl, h⟩
theorem ListComp_rows {K : Frag} {elt iter : PySem.Expr} {x y z : Str} {px py pz tp : Pos} {tk} {scope : Scope} {cl : List (Str × Addr)} {pos : Pos} {Q : Value → Shared → Prop} (_F₀ : Fr h₀ L s.heap m)
    (hclos : closureFor scope env = pure cl) (hcell : ∀ v ∈ scope.names, v.2 ≠ .cell) (hkind : scope.kind = .function)
    (hnames : ∀ v ∈ scope.names, v.2 = .local → scope.names.lookup v.1 = some .local) (hx : scope.names.lookup x = some .local) (hy : scope.names.lookup y = some .local) (hz : scope.names.lookup z = some .local) (hxy : x ≠ y) (hxz : x ≠ z) (hyz : y ≠ z)
    (h : wpAny (model prog w) A (eval iter env) (RowsSrc prog w A K h₀ L m env elt x y z scope cl Q) E s)
    (hs : ∀ x, foldedSetIterable iter env x = pure x := by intro _; rfl) :
    wpAny (model prog w) A (eval (.ListComp elt [⟨.Tuple [.Name x px, .Name y py, .Name z pz] tk tp, iter, [], 0⟩] scope pos) env) Q E s := by
  rw [eval_ListComp]
  refine wpAny_comprehension_free (use := none) rfl hs hclos hkind hnames (wpAny_mono h (fun xv s₁ h₁ => ?_) fun _ _ e => e)
  obtain ⟨R, us, k, news, rs, rfl, ⟨hh, inK, hit, hsub, F, N, hm, hrows, hfew, turn, done⟩⟩ := h₁
  have hlen := hrows.length
  have hl : s₁.heap.IsList R us.toArray := ⟨_, (N _ hm).1, rfl, _, rfl⟩
  have hlt : R < s₁.heap.objs.size := Heap.lt_size (N _ hm).1
  refine wpAny_pyIter_list hl ?_
  generalize hIe : s₁.heap.objs.size = I at *
  generalize hH1 : s₁.heap.push { cls := .type "list_iterator", data := .fields #[.ref R, .int 0 0] } = H1
  have sz1 : H1.objs.size = I + 1 := by rw [← hH1, Heap.size_push, hIe]
  have up1 : ∀ b o, s₁.heap.get? b = some o → H1.get? b = some o := fun b o e => by rw [← hH1]; exact Heap.get?_push_of_some _ e
  have hLlt : @LT.lt Nat _ L I := by have := F.ns.lt; rwa [hIe] at this
  have W := Walks.list (prog := prog) (w := w) hh I R (Nat.ne_of_lt hlt) us.toArray
  have hI1 : H1.IsListIter I R 0 := by rw [← hH1, ← hIe]; exact ⟨_, Heap.get?_push_size _ rfl, rfl, rfl⟩
  have fresh₀ : ∀ a, @LE.le Nat _ I a → h₀.get? a = none := fun a ha => Heap.get?_none_of_le (Nat.le_trans F.above (Nat.le_trans (Nat.le_of_lt hLlt) ha))
  have nlt : ∀ p ∈ news, @LT.lt Nat _ p.1 I := fun p hp => by have := Heap.lt_size (N p hp).1; rwa [hIe] at this
  refine wpAny_newObj_type (wpAny_newFunctionEnv hcell (by intro y hy; simp at hy) (fun h₁ hns₁ hsb₁ => ?_) hkind)
  dsimp only at hns₁ hsb₁ ⊢
  generalize hH2 : H1.push { cls := .type "list", dict := none, data := .seq ([] : List Value).toArray } = H2 at hns₁ hsb₁ ⊢
  have sz2 : H2.objs.size = I + 2 := by rw [← hH2, Heap.size_push, sz1]
  rw [sz2] at hns₁ hsb₁ ⊢
  rw [sz1]
  have hs₁' : Heap.SameBut (I + 2) (H2.push { cls := .type "dict", data := .dict #[] }) h₁ := hsb₁
  have up2 : ∀ b o, @LT.lt Nat _ b (I + 2) → H2.get? b = some o → h₁.get? b = some o := fun b o hb e => (hs₁'.2 b (Nat.ne_of_lt hb)).trans (Heap.get?_push_of_some _ e)
  have up : ∀ b o, H1.get? b = some o → h₁.get? b = some o := fun b o e => up2 b o (by have := Heap.lt_size e; rw [sz1] at this; exact Nat.lt_succ_of_lt this) (by rw [← hH2]; exact Heap.get?_push_of_some _ e)
  have hacc : h₁.get? (I + 1) = some (lst []) := up2 _ _ (Nat.lt_succ_self _) (by rw [← hH2, ← sz1]; exact Heap.get?_push_size _ rfl)
  have hst₁ : h₁.IsListIter I R 0 ∧ h₁.IsList R us.toArray := ⟨hI1.at fun o e => up _ o e, hl.at fun o e => up _ o (up1 _ _ e)⟩
  have hCL : I + 2 ≠ L := Nat.ne_of_gt (Nat.lt_trans hLlt (by omega))
  have hDL : I + 1 ≠ L := Nat.ne_of_gt (Nat.lt_trans hLlt (by omega))
  have hIL : L ≠ I := Nat.ne_of_lt hLlt
  have hD₀ : h₀.get? (I + 1) = none := fresh₀ _ (Nat.le_succ _)
  have hC₀ : h₀.get? (I + 2) = none := fresh₀ _ (Nat.le_add_right _ _)
  have hI₀ : h₀.get? I = none := fresh₀ _ (Nat.le_refl _)
  have off₀ : Off3 I (I + 2) (I + 1) news := Off3.of fun p hp => ⟨Nat.ne_of_lt (nlt p hp), Nat.ne_of_lt (Nat.lt_trans (nlt p hp) (by omega)), Nat.ne_of_lt (Nat.lt_trans (nlt p hp) (by omega))⟩
  have loop : ∀ s₃ : Shared, s₃ = { s₁ with heap := h₁, toks := s₁.toks + ([] : List (Str × Value)).length } →
      codeAny (model prog w) A (.compLoop (.ListComp elt [⟨.Tuple [.Name x px, .Name y py, .Name z pz] tk tp, iter, [], 0⟩] scope pos) 0 (.ref I) (.ref (I + 1)) (compEnvC scope cl (I + 2) env))
        (compPost (model prog w) A E none Q (.ref (I + 1)) (I + 2)) s₃ := by
    rintro s₃ rfl
    refine codeAny_compLoop_pair
      (fun k' s' => ∃ h' tk i ys m' nx, s' = { s₁ with heap := h', toks := tk } ∧ i ≤ rs.length ∧ k' = rs.length + 1 - i ∧ ys.length = i ∧ (h'.IsListIter I R i ∧ h'.IsList R us.toArray) ∧ Fr h₀ L h' m ∧ h'.Ns (I + 2) m' ∧ News h₀ L h' ((I + 1, lst ys) :: nx) ∧
        Off3 I (I + 2) (I + 1) nx ∧ (∀ p ∈ news, p ∈ nx) ∧ DatAll nx ys ((rs.take i).map rowOf)) ?_ (rs.length + 1)
      ⟨h₁, _, 0, [], _, news, rfl, Nat.zero_le _, rfl, rfl, hst₁, F.keeps (fun b o e => up b o (up1 b o e)), hns₁, fun p hp => ?_, off₀, fun _ h => h, .nil⟩
    · rintro k' s' ⟨h', tk', i, ys, m', nx, rfl, hi, rfl, hyl, hst', F', hn', N', off', hsb, hys⟩
      have off3 := off'.mem
      by_cases hlt' : i < rs.length
      · refine W.item i _ _ _ (by rw [List.size_toArray, hlen]; exact hlt') hst' fun v h₂ tk₂ hPv hst₂ hk₂ => ?_
        obtain ⟨r, hr, Dr, dx, u1, u2, u3, rfl, hmr⟩ := hrows.at i v (by simpa using hPv)
        have N₂ : News h₀ L h₂ ((I + 1, lst ys) :: nx) := news_but N' hk₂ fun p hp => by
          rcases List.mem_cons.mp hp with rfl | hp
          · exact Nat.ne_of_gt (Nat.lt_succ_self _)
          · exact (off3 p hp).1
        have hDr := (N₂ _ (List.mem_cons_of_mem _ (hsb _ hmr))).1
        have F₂ : Fr h₀ L h₂ m := fr_but F' hk₂ hIL hI₀
        refine wpAny_letOwnedTupleGo_listiter hst₂.1 ?_
        rw [arm_assign_Tuple]
        refine wpAny_bind (wpAny_standAt ?_)
        show wpAny _ _ (do let items ← holding [Value.ref Dr] (unpackItems (.ref Dr) 3 none); assignInOrder _ items) _ _ _
        refine wpAny_bind (wpAny_holding (own_unpack3 hh (inK.keeps F₂.keep) hDr rfl rfl hit hsub fun h₅ he => ?_))
        have he' : ∀ b o, h₂.get? b = some o → h₅.get? b = some o := fun b o e => he b o (Nat.ne_of_lt (Heap.lt_size e)) e
        have hnC : h₅.Ns (I + 2) m' := (hn'.at' fun o e => hk₂ _ o (by simpa using Nat.ne_of_gt (show I < I + 2 by omega)) e).at' fun o e => he' _ o e
        refine assignInOrder_cons (wpAny_assign_Name (wpAny_storeName_local (lookup_relabel_local hx) hnC (fun h₆ hn₆ hs₆ => ?_) (by simp [compEnvC, relabel, hkind])))
        refine assignInOrder_cons (wpAny_assign_Name (wpAny_storeName_local (lookup_relabel_local hy) hn₆ (fun h₇ hn₇ hs₇ => ?_) (by simp [compEnvC, relabel, hkind])))
        refine assignInOrder_cons (wpAny_assign_Name (wpAny_storeName_local (lookup_relabel_local hz) hn₇ (fun h₃ hn₃ hs₃ => ?_) (by simp [compEnvC, relabel, hkind])))
        refine assignInOrder_nil ?_
        have old3 : ∀ b o, b ≠ I + 2 → h₂.get? b = some o → h₃.get? b = some o := fun b o hb e => hs₃.extBut b o hb (hs₇.extBut b o hb (hs₆.extBut b o hb (he' b o e)))
        have hst₃ : h₃.IsListIter I R (i + 1) ∧ h₃.IsList R us.toArray := ⟨hst₂.1.at fun o e => old3 _ o (Nat.ne_of_lt (show I < I + 2 by omega)) e, hst₂.2.at fun o e => old3 _ o (Nat.ne_of_lt (Nat.lt_trans hlt (show I < I + 2 by omega))) e⟩
        obtain ⟨oI, heI, _⟩ := id hst₃.1
        obtain ⟨oC, heC, hoC⟩ := ns_obj hn₃
        have F₃ : Fr h₀ L h₃ m := (((F₂.keeps he').change hs₆ hCL hC₀).change hs₇ hCL hC₀).change hs₃ hCL hC₀
        have N₃ : News h₀ L h₃ ((I, oI) :: (I + 2, oC) :: (I + 1, lst ys) :: nx) := fun p hp => by
          rcases List.mem_cons.mp hp with rfl | hp
          · exact ⟨heI, Ne.symm hIL, hI₀⟩
          · rcases List.mem_cons.mp hp with rfl | hp
            · exact ⟨heC, hCL, hC₀⟩
            · have z9 := N₂ p hp
              refine ⟨old3 _ _ ?_ z9.1, z9.2⟩
              rcases List.mem_cons.mp hp with rfl | hp
              · exact Nat.ne_of_lt (Nat.lt_succ_self _)
              · exact (off3 p hp).2.1
        refine wpAny_mono (turn nx r u1 u2 u3 I oI (I + 2) oC (I + 1) ys _ h₃ _ _ hsb hoC (by simp [hxy, hxz]) (by simp [hyz]) (by simp) F₃ N₃ off' ⟨Nat.ne_of_lt (by omega), Nat.ne_of_lt (by omega), Nat.ne_of_gt (by omega)⟩) (fun y9 s₄ h₄ => ?_) fun _ _ e => e
        obtain ⟨h₄, tk₄, nx₄, rfl, F₄, N₄, off₄, hS₄, hsb₄, hdat⟩ := h₄
        have zI := (N₄ (I, oI) List.mem_cons_self).1
        have zC := (N₄ (I + 2, oC) (List.mem_cons_of_mem _ List.mem_cons_self)).1
        have zD := (N₄ (I + 1, lst ys) (List.mem_cons_of_mem _ (List.mem_cons_of_mem _ List.mem_cons_self))).1
        have N₄' : News h₀ L h₄ nx₄ := fun p hp => N₄ p (List.mem_cons_of_mem _ (List.mem_cons_of_mem _ (List.mem_cons_of_mem _ hp)))
        have off4 := off₄.mem
        have hst₄ : h₄.IsListIter I R (i + 1) ∧ h₄.IsList R us.toArray := ⟨hst₃.1.at fun o e => by rw [heI] at e; rw [← Option.some.inj e]; exact zI, ⟨_, (N₄' _ hS₄).1, rfl, _, rfl⟩⟩
        refine append_at (hsz := by show ys.toArray.size ≤ sizeLine; rw [List.size_toArray, hyl, sizeLine_eq]; omega) zD fun h₅ hs₅ hD₅ => ?_
        have htk : rs.take (i + 1) = rs.take i ++ [r] := by rw [List.take_add_one, hr]; rfl
        refine ⟨rs.length + 1 - (i + 1), by omega, h₅, tk₄, i + 1, ys ++ [y9], _, nx₄, rfl, hlt', rfl, by rw [List.length_append, List.length_singleton, hyl], ⟨hst₄.1.at fun o e => hs₅.extBut _ o (Nat.ne_of_lt (Nat.lt_succ_self _)) e, hst₄.2.at fun o e => hs₅.extBut _ o (Nat.ne_of_lt (Nat.lt_succ_of_lt hlt)) e⟩, F₄.change hs₅ hDL hD₀,
          (hoC.ns zC).sameBut hs₅ (Nat.ne_of_gt (Nat.lt_succ_self _)), fun p hp => ?_, off₄, fun p hp => hsb₄ p (hsb p hp), ?_⟩
        · rcases List.mem_cons.mp hp with rfl | hp
          · exact ⟨hD₅.trans (congrArg some (lst_snoc ys y9)), hDL, hD₀⟩
          · exact ⟨hs₅.extBut _ _ (off4 p hp).2.2 (N₄' p hp).1, (N₄' p hp).2⟩
        · rw [htk, List.map_append]
          exact DatAll.append (hys.mono hsb₄) (.cons hdat .nil)
      · obtain rfl : i = rs.length := Nat.le_antisymm hi (Nat.not_lt.mp hlt')
        have hst'' : h'.IsListIter I R us.toArray.size ∧ h'.IsList R us.toArray := by rw [List.size_toArray, hlen]; exact hst'
        refine W.done _ _ _ hst'' fun h₂ tk₂ hk₂ => ?_
        rw [List.take_length] at hys
        have hnC : h₂.Ns (I + 2) m' := hn'.at' fun o e => hk₂ _ o (by simpa using Nat.ne_of_gt (show I < I + 2 by omega)) e
        have F₂ : Fr h₀ L h₂ m := fr_but F' hk₂ hIL hI₀
        have N₂ : News h₀ L h₂ ((I + 1, lst ys) :: nx) := news_but N' hk₂ fun p hp => by
          rcases List.mem_cons.mp hp with rfl | hp
          · exact Nat.ne_of_gt (Nat.lt_succ_self _)
          · exact (off3 p hp).1
        refine ⟨m', hnC, fun h'' hs'' => done ys (I + 1) h'' tk₂ nx hsb hys (F₂.change hs'' hCL hC₀) (fun p hp => ⟨hs''.extBut _ _ ?_ (N₂ p hp).1, (N₂ p hp).2⟩) fun p hp => (off3 p hp).2.2⟩
        rcases List.mem_cons.mp hp with rfl | hp
        · exact Nat.ne_of_lt (Nat.lt_succ_self _)
        · exact (off3 p hp).2.1
    · rcases List.mem_cons.mp hp with rfl | hp
      · exact ⟨hacc, hDL, hD₀⟩
      · exact ⟨up _ _ (up1 _ _ (N p hp).1), (N p hp).2⟩
  exact codeAny_compStart_list (loop _ rfl) (W.self 0 _ _ _ hst₁ (loop _ rfl))
end
end
section
theorem ints_dat {l : List (Addr × Obj)} {vs : List Value} {ns : List Int} (h : IntsAre vs ns) : DatAll l vs (ns.map Dat.int) := by
  induction h with
  | nil => exact .nil
  | cons i t _ ih => exact .cons (.int i t) ih
theorem ok_ints (n : Nat) (ns : List Int) : kqdOk (n + 1) (.list (ns.map Dat.int)) = true := by
  rw [kqdOk, List.all_eq_true]
  intro d hd
  obtain ⟨i, _, rfl⟩ := List.mem_map.mp hd
  cases n <;> rfl
theorem ok_row (n : Nat) (a b c : Int) : kqdOk (n + 1) (rowDat a b c) = true := by
  unfold rowDat
  rw [kqdOk, List.all_eq_true]
  intro d hd
  simp only [List.mem_cons, List.not_mem_nil, or_false] at hd
  rcases hd with rfl | rfl | rfl <;> (cases n <;> rfl)
section
variable {prog : Program} {w : World} {A : Around} {E : Value → Shared → Prop} {s : Shared} {h₀ : Heap} {L a b : Addr} {m : Str → Option Value} {env : Env} {news n₁ n₂ : List (Addr × Obj)} {d : Dat} {Q : Value → Shared → Prop}
theorem dat_ne (N : News h₀ L s.heap news) (Da : DatIn n₁ (.ref a) d) (sa : ∀ p ∈ n₁, p ∈ news) (Db : DatIn n₂ (.ref b) d) (sb : ∀ p ∈ n₂, p ∈ news) (ok : kqdOk 9 d = true) (hu : A.units + 64 < cLine) (h : Q (.bool false) s) :
    wpAny (model prog w) A (compareOp .NotEq (.ref a) (.ref b)) Q E s := by
  obtain ⟨as, ra⟩ := kqd_in N 9 (DatIn.mono sa Da) ok
  obtain ⟨bs, rb⟩ := kqd_in N 9 (DatIn.mono sb Db) ok
  have la := kqd_lay 9 d ok
  have e : PyData.eqv (kqdP d) (kqdP d) = true := (kqd_eqv 9 d d 9 ok ok).mpr rfl
  refine ne_dataH ra rb ?_ ?_ hu (by rw [e]; exact h)
  · unfold SeqAt.shaped; rw [la.1, Bool.true_and]; exact decide_eq_true (Nat.le_trans la.2 (by decide))
  · unfold SeqAt.shaped; rw [la.1, Bool.true_and]; exact decide_eq_true (Nat.le_trans la.2 (by decide))
end
section
variable {prog : Program} {w : World} {A : Around} {E : Value → Shared → Prop} {s : Shared} {env : Env} {h₀ : Heap} {x : Str} {body : List Stmt} {Q : Flow → Shared → Prop}
theorem kd_vals {σ : Type} {l : Addr} {vs : List Value} {nn : Nat} {m₀ : Str → Option Value} {news : List (Addr × Obj)} (Led : σ → List (Addr × Obj)) (cst : List (Addr × Obj)) (ps : σ → List (Str × Value)) (Facts : List (Addr × Obj) → σ → Prop) (stored : List Str) (P : Nat → σ → Prop) (adr : List Addr) (c₀ : σ)
    (hh : A.handled = none) (hl : (l, listOf vs.toArray nn) ∈ cst) (F : Fr h₀ env.locals s.heap m₀) (N : News h₀ env.locals s.heap news) (hn : ∀ p ∈ Led c₀ ++ (cst ++ []), p ∈ news) (hadr : ∀ c, (Led c ++ cst).map (·.1) = adr) (hf : Facts (cst ++ []) c₀) (hk : ∀ p ∈ ps c₀, m₀ p.1 = some p.2) (hp : P 0 c₀)
    (turn : ∀ (c : σ) tl i v (u : Str → Option Value) h tk own, vs[i]? = some v → KdSep own tl adr → OwnOff (tl ++ own) adr → Facts (cst ++ tl) c → P i c →
      Fr h₀ env.locals h (fun y => if y = x then some v else kstB (fun z => if stored.contains z then u z else m₀ z) (ps c) y) → News h₀ env.locals h (Led c ++ (cst ++ (tl ++ own))) →
      wpAny (model prog w) A (execs body env) (InvPostG h₀ env.locals (KdS Led cst ps Facts x stored m₀ P adr (i + 1)) own { s with heap := h, toks := tk } Q) E { s with heap := h, toks := tk })
    (done : ∀ (c : σ) tl (u : Str → Option Value) h tk, OwnOff tl adr → Facts (cst ++ tl) c → P vs.length c → Fr h₀ env.locals h (fun y => if y = x then u y else kstB (fun z => if stored.contains z then u z else m₀ z) (ps c) y) → News h₀ env.locals h (Led c ++ (cst ++ tl)) → Q .next { s with heap := h, toks := tk }) :
    wpAny (model prog w) A (pyIter (.ref l)) (fun it s₂ => LoopAtV prog w A h₀ env x body Q E it s₂) E s := by
  refine kdl_iter (news := Led c₀ ++ (cst ++ [])) (fun i m nx => KdS Led cst ps Facts x stored m₀ P adr i m nx) hh (List.mem_append.mpr (.inr (List.mem_append.mpr (.inl hl)))) F (fun p hp => N p (hn p hp)) ⟨c₀, [], rfl, fun _ hp => (nomatch hp), hf, hk, fun _ _ _ _ => rfl, hp⟩ ?_ ?_
  · rintro i v m₁ nx h tk own hv hoff _ ⟨c, tl, rfl, ht, hf', h1, h2, hp'⟩ F₁ N₁
    obtain ⟨o1, o2⟩ := kd_split (hadr c) hoff
    rw [List.append_assoc, List.append_assoc] at N₁
    refine wpAny_mono (turn c tl i v m₁ h tk own hv ⟨o1, o2, ht⟩ (kd_off o1 ht) hf' hp' (kst_fr h1 h2 F₁) N₁) (fun f s₂ p => ?_) fun _ _ x => x
    have up : InvEndG h₀ env.locals (KdS Led cst ps Facts x stored m₀ P adr (i + 1)) own { s with heap := h, toks := tk } s₂ →
        InvEndG h₀ env.locals (fun m' nx => (l, listOf vs.toArray nn) ∈ nx ∧ KdS Led cst ps Facts x stored m₀ P adr (i + 1) m' nx) own { s with heap := h, toks := tk } s₂ := by
      rintro ⟨h', tk', m', news', nx', e', F', N', hn', ho', ha, hS⟩
      refine ⟨h', tk', m', news', nx', e', F', N', hn', ho', ha, ?_, hS⟩
      obtain ⟨c', tl', rfl, _⟩ := hS
      exact List.mem_append.mpr (.inr (List.mem_append.mpr (.inl hl)))
    cases f with
    | ret v => exact p
    | brk => exact p
    | next => exact up p
    | cont => exact up p
  · rintro m₁ nx h tk ⟨c, tl, rfl, ht, hf', h1, h2, hp'⟩ F₁ N₁
    exact done c tl m₁ h tk ht hf' hp' (kst_frOut h1 h2 F₁) N₁
end
theorem ok_pair (a b : List Int) : kqdOk 9 (.tuple [.list (a.map Dat.int), .list (b.map Dat.int)]) = true := by
  rw [kqdOk, List.all_eq_true]
  intro d hd
  simp only [List.mem_cons, List.not_mem_nil, or_false] at hd
  rcases hd with rfl | rfl
  · exact ok_ints 7 a
  · exact ok_ints 7 b
theorem ok_rows (wn pn : List Int) : kqdOk 9 (.list (lawRows wn pn)) = true := by
  rw [kqdOk, List.all_eq_true]
  intro d hd
  unfold lawRows at hd
  rcases List.mem_append.mp hd with hd | hd
  · unfold rowsUp at hd
    obtain ⟨k, _, hk⟩ := List.mem_flatMap.mp hd
    unfold rowStep at hk
    split at hk
    · rw [List.mem_singleton.mp hk]; exact ok_row 7 _ _ _
    · exact absurd hk List.not_mem_nil
  · obtain ⟨x, _, rfl⟩ := List.mem_map.mp hd
    exact ok_row 7 _ _ _
end
section
theorem len_le_of_sub {α : Type} [DecidableEq α] : ∀ {l m : List α}, l.Nodup → (∀ x ∈ l, x ∈ m) → l.length ≤ m.length
  | [], _, _, _ => Nat.zero_le _
  | a :: l, m, hn, hs => by
    have hn' := List.nodup_cons.mp hn
    have ha := hs a List.mem_cons_self
    have h2 : ∀ x ∈ l, x ∈ m.erase a := fun x hx => by
      have hxa : x ≠ a := fun e => hn'.1 (e ▸ hx)
      exact (List.mem_erase_of_ne hxa).mpr (hs x (List.mem_cons_of_mem _ hx))
    have h3 := len_le_of_sub hn'.2 h2
    rw [List.length_erase_of_mem ha] at h3
    have h4 : 0 < m.length := List.length_pos_of_mem ha
    rw [List.length_cons]; omega
theorem nodup_map {α β : Type} {f : α → β} : ∀ {l : List α}, l.Nodup → (∀ a ∈ l, ∀ b ∈ l, f a = f b → a = b) → (l.map f).Nodup
  | [], _, _ => List.nodup_nil
  | a :: l, hn, hi => by
    have hn' := List.nodup_cons.mp hn
    rw [List.map_cons, List.nodup_cons]
    refine ⟨fun hm => ?_, nodup_map hn'.2 fun x hx y hy => hi x (List.mem_cons_of_mem _ hx) y (List.mem_cons_of_mem _ hy)⟩
    obtain ⟨b, hb, e⟩ := List.mem_map.mp hm
    exact hn'.1 (hi b (List.mem_cons_of_mem _ hb) a List.mem_cons_self e ▸ hb)
theorem nodup_range' (a : Int) (n : Nat) : ((List.range n).map fun (i : Nat) => a + (i : Int)).Nodup :=
  nodup_map List.nodup_range fun x _ y _ e => by omega
structure Stable (n : Nat) (w pl : Nat → Int) (od : Nat → Nat) : Prop where
  inj : ∀ a b, a < n → b < n → pl a = pl b → a = b
  ge : ∀ a, a < n → w a ≤ pl a
  full : ∀ a q, a < n → w a ≤ q → q < pl a → ∃ b, b < n ∧ pl b = q ∧ od b < od a
theorem Stable.unique {n : Nat} {w p1 p2 : Nat → Int} {od : Nat → Nat} (h1 : Stable n w p1 od) (h2 : Stable n w p2 od) : ∀ a, a < n → p1 a = p2 a := by
  have key : ∀ k a, od a = k → a < n → p1 a = p2 a := by
    intro k
    induction k using Nat.strongRecOn with
    | ind k ih =>
      intro a hk ha
      rcases Int.lt_trichotomy (p1 a) (p2 a) with h | h | h
      · obtain ⟨b, hb, e, ho⟩ := h2.full a (p1 a) ha (h1.ge a ha) h
        have e2 := ih (od b) (by omega) b rfl hb
        have := h1.inj b a hb ha (by omega)
        subst this; omega
      · exact h
      · obtain ⟨b, hb, e, ho⟩ := h1.full a (p2 a) ha (h2.ge a ha) h
        have e2 := ih (od b) (by omega) b rfl hb
        have := h2.inj b a hb ha (by omega)
        subst this; omega
  exact fun a ha => key _ a rfl ha
noncomputable def wish (n : Nat) (w : Nat → Int) (a p : Int) : List Nat := (List.range n).filter fun c => decide (a ≤ w c) && decide (w c ≤ p)
theorem mem_wish {n : Nat} {w : Nat → Int} {a p : Int} {c : Nat} : c ∈ wish n w a p ↔ c < n ∧ a ≤ w c ∧ w c ≤ p := by
  simp [wish, List.mem_filter]
theorem wish_nodup (n : Nat) (w : Nat → Int) (a p : Int) : (wish n w a p).Nodup := List.Pairwise.filter _ List.nodup_range
theorem Stable.near {n : Nat} {w pl : Nat → Int} {od : Nat → Nat} (h : Stable n w pl od) (a : Nat) (ha : a < n) : pl a - w a < n := by
  have hg := h.ge a ha
  have := len_le_of_sub (l := (List.range (pl a - w a + 1).toNat).map fun (i : Nat) => w a + (i : Int)) (m := (List.range n).map pl) (nodup_range' _ _) (by
    intro x hx
    obtain ⟨i, hi, rfl⟩ := List.mem_map.mp hx
    have hi := List.mem_range.mp hi
    rw [List.mem_map]
    by_cases e : w a + (i : Int) = pl a
    · exact ⟨a, List.mem_range.mpr ha, e.symm⟩
    · obtain ⟨b, hb, e, _⟩ := h.full a (w a + i) ha (by omega) (by omega)
      exact ⟨b, List.mem_range.mpr hb, e⟩)
  simp only [List.length_map, List.length_range] at this
  omega
theorem low_end (P : Nat → Prop) (p : Nat) (hp : P p) : ∃ a, a ≤ p ∧ (∀ q, a ≤ q → q ≤ p → P q) ∧ (a = 0 ∨ ∃ b, a = b + 1 ∧ ¬ P b) := by
  suffices ∀ k, k ≤ p → (∀ q, k ≤ q → q ≤ p → P q) → ∃ a, a ≤ p ∧ (∀ q, a ≤ q → q ≤ p → P q) ∧ (a = 0 ∨ ∃ b, a = b + 1 ∧ ¬ P b) from
    this p (Nat.le_refl _) fun q h1 h2 => (by have : q = p := by omega
                                              rw [this]; exact hp)
  intro k
  induction k with
  | zero => intro h1 h2; exact ⟨0, h1, h2, .inl rfl⟩
  | succ k ih =>
    intro h1 h2
    by_cases hk : P k
    · exact ih (by omega) fun q a b => by
        by_cases e : q = k
        · rw [e]; exact hk
        · exact h2 q (by omega) b
    · exact ⟨k + 1, h1, h2, .inr ⟨k, rfl, hk⟩⟩
theorem Stable.taken {n : Nat} {w pl : Nat → Int} {od : Nat → Nat} (h : Stable n w pl od) (hw : ∀ a, a < n → 0 ≤ w a) (p : Nat) :
    (∃ c, c < n ∧ pl c = (p : Int)) ↔ ∃ a, a ≤ p ∧ (p : Int) - (a : Int) < ((wish n w a p).length : Int) := by
  constructor
  · intro hp
    obtain ⟨a, ha, hall, hlow⟩ := low_end (fun q => ∃ c, c < n ∧ pl c = (q : Int)) p hp
    refine ⟨a, ha, ?_⟩
    have := len_le_of_sub (l := (List.range (p - a + 1)).map fun (i : Nat) => (a : Int) + (i : Int)) (m := (wish n w a p).map pl) (nodup_range' _ _) (by
      intro x hx
      obtain ⟨i, hi, rfl⟩ := List.mem_map.mp hx
      have hi := List.mem_range.mp hi
      obtain ⟨c, hc, e⟩ := hall (a + i) (by omega) (by omega)
      refine List.mem_map.mpr ⟨c, mem_wish.mpr ⟨hc, ?_, ?_⟩, by omega⟩
      · rcases hlow with rfl | ⟨b, rfl, hb⟩
        · exact hw c hc
        · refine Int.not_lt.mp fun hlt => hb ?_
          obtain ⟨d, hd, e2, _⟩ := h.full c b hc (by omega) (by omega)
          exact ⟨d, hd, e2⟩
      · have := h.ge c hc
        omega)
    simp only [List.length_map, List.length_range] at this
    omega
  · rintro ⟨a, ha, hlt⟩
    refine Classical.byContradiction fun hn => ?_
    have := len_le_of_sub (l := (wish n w a p).map pl) (m := (List.range (p - a)).map fun (i : Nat) => (a : Int) + (i : Int)) (nodup_map (wish_nodup ..) fun x hx y hy e => h.inj x y (mem_wish.mp hx).1 (mem_wish.mp hy).1 e) (by
      intro x hx
      obtain ⟨c, hc, rfl⟩ := List.mem_map.mp hx
      obtain ⟨h1, h2, h3⟩ := mem_wish.mp hc
      have hg := h.ge c h1
      have hlt : pl c < p := by
        rcases Int.lt_trichotomy (pl c) p with q | q | q
        · exact q
        · exact absurd ⟨c, h1, q⟩ hn
        · obtain ⟨d, hd, e, _⟩ := h.full c p h1 h3 q
          exact absurd ⟨d, hd, e⟩ hn
      exact List.mem_map.mpr ⟨(pl c - a).toNat, List.mem_range.mpr (by omega), by omega⟩)
    simp only [List.length_map, List.length_range] at this
    omega
theorem Stable.rises {n : Nat} {w pl : Nat → Int} {od : Nat → Nat} (h : Stable n w pl od) {a b : Nat} (ha : a < n) (hb : b < n) (ho : od a < od b) (hw : w a ≤ w b) : pl a < pl b := by
  refine Int.not_le.mp fun hle => ?_
  rcases Int.lt_or_eq_of_le hle with q | q
  · have := h.ge b hb
    obtain ⟨c, hc, e, h2⟩ := h.full a (pl b) ha (by omega) q
    have := h.inj c b hc hb e
    subst this; omega
  · have := h.inj b a hb ha q
    subst this; omega
theorem Stable.far {n : Nat} {w s p : Nat → Int} {od od' : Nat → Nat} (hs : Stable n w s od) (hp : Stable n w p od') (hod : ∀ a b, a < n → b < n → od a = od b → a = b) (hby : ∀ a b, a < n → b < n → od a < od b → w a ≤ w b)
    (hT : ∀ a, a < n → ∃ b, b < n ∧ p a = s b) (a : Nat) (ha : a < n) : ∃ b, b < n ∧ s a - w a ≤ p b - w b := by
  refine Classical.byContradiction fun hn => ?_
  have hall : ∀ b, b < n → od b ≤ od a → p b < s a := by
    intro b hb ho
    have hwb : w b ≤ w a := by
      rcases Nat.lt_or_eq_of_le ho with q | q
      · exact hby b a hb ha q
      · rw [hod b a hb ha q]; exact Int.le_refl _
    refine Int.not_le.mp fun hle => hn ⟨b, hb, by omega⟩
  have hnd : ((List.range n).filter fun b => decide (od b ≤ od a)).Nodup := List.Pairwise.filter _ List.nodup_range
  have := len_le_of_sub (l := ((List.range n).filter fun b => decide (od b ≤ od a)).map p) (m := ((List.range n).filter fun b => decide (od b < od a)).map s) (nodup_map hnd fun x hx y hy e => by
      simp only [List.mem_filter, List.mem_range, decide_eq_true_eq] at hx hy
      exact hp.inj x y hx.1 hy.1 e) (by
    intro x hx
    obtain ⟨b, hb, rfl⟩ := List.mem_map.mp hx
    simp only [List.mem_filter, List.mem_range, decide_eq_true_eq] at hb
    obtain ⟨c, hc, e⟩ := hT b hb.1
    have h1 := hall b hb.1 hb.2
    refine List.mem_map.mpr ⟨c, ?_, e.symm⟩
    simp only [List.mem_filter, List.mem_range, decide_eq_true_eq]
    refine ⟨hc, Nat.not_le.mp fun hle => ?_⟩
    rcases Nat.lt_or_eq_of_le hle with q | q
    · have := hs.rises ha hc q (hby a c ha hc q)
      omega
    · have := hod a c ha hc q
      subst this; omega)
  rw [List.length_map, List.length_map] at this
  have hlt : ((List.range n).filter fun b => decide (od b < od a)).length < ((List.range n).filter fun b => decide (od b ≤ od a)).length := by
    have h5 := len_le_of_sub (l := a :: (List.range n).filter fun b => decide (od b < od a)) (m := (List.range n).filter fun b => decide (od b ≤ od a)) (by
      rw [List.nodup_cons]
      refine ⟨by simp, List.Pairwise.filter _ List.nodup_range⟩) (by
      intro x hx
      rcases List.mem_cons.mp hx with rfl | hx
      · simp [ha]
      · simp only [List.mem_filter, List.mem_range, decide_eq_true_eq] at hx ⊢
        omega)
    rw [List.length_cons] at h5
    omega
  omega
end
section
noncomputable def par (k : Nat) : Nat := (k - 1) / 2
noncomputable def HeapL (l : List Int) : Prop := ∀ k, 0 < k → k < l.length → l.getD (par k) 0 ≤ l.getD k 0
structure Hole (l : List Int) (p : Nat) : Prop where
  off : ∀ k, 0 < k → k < l.length → k ≠ p → par k ≠ p → l.getD (par k) 0 ≤ l.getD k 0
  thru : ∀ k, 0 < k → k < l.length → par k = p → 0 < p → l.getD (par p) 0 ≤ l.getD k 0
theorem getD_set {l : List Int} {p : Nat} {x : Int} (hp : p < l.length) (k : Nat) : (l.set p x).getD k 0 = if k = p then x else l.getD k 0 := by
  rw [List.getD_eq_getElem?_getD, List.getElem?_set]
  by_cases h : p = k
  · subst h; simp [hp]
  · rw [if_neg h, if_neg (fun e => h e.symm), List.getD_eq_getElem?_getD]
theorem sd_heap (x : Int) (l : List Int) (p : Nat) (hp : p < l.length) (hh : Hole l p) (hc : ∀ k, 0 < k → k < l.length → par k = p → x ≤ l.getD k 0) : HeapL (sd x l p) := by
  induction p using Nat.strongRecOn generalizing l with
  | ind p ih =>
    have stop : (0 < p → l.getD (par p) 0 ≤ x) → HeapL (l.set p x) := by
      intro hx k h0 hk
      rw [List.length_set] at hk
      rw [getD_set hp, getD_set hp]
      by_cases e1 : k = p
      · subst e1
        rw [if_neg (by unfold par; omega), if_pos rfl]
        exact hx h0
      · rw [if_neg e1]
        by_cases e2 : par k = p
        · rw [if_pos e2]; exact hc k h0 hk e2
        · rw [if_neg e2]; exact hh.off k h0 hk e1 e2
    rw [sd_eq]
    split
    · rename_i h0
      split
      · rename_i hlt
        have hq : par p < p := by unfold par; omega
        have hql : par p < l.length := by omega
        have hlp : ∀ k, (l.set p (l.getD (par p) 0)).getD k 0 = if k = p then l.getD (par p) 0 else l.getD k 0 := fun k => getD_set hp k
        refine ih (par p) hq (l.set p (l.getD (par p) 0)) (by rw [List.length_set]; exact hql) ⟨?_, ?_⟩ ?_
        · intro k k0 hk e1 e2
          rw [List.length_set] at hk
          rw [hlp, hlp]
          by_cases e3 : k = p
          · subst e3; exact absurd rfl e2
          · rw [if_neg e3]
            by_cases e4 : par k = p
            · rw [if_pos e4]; exact hh.thru k k0 hk e4 h0
            · rw [if_neg e4]; exact hh.off k k0 hk e3 e4
        · intro k k0 hk e1 q0
          rw [List.length_set] at hk
          rw [hlp, hlp]
          have e5 : par (par p) ≠ p := by unfold par at *; omega
          rw [if_neg e5]
          have h6 : l.getD (par (par p)) 0 ≤ l.getD (par p) 0 := hh.off (par p) q0 hql (by omega) e5
          by_cases e3 : k = p
          · rw [if_pos e3]; exact h6
          · rw [if_neg e3]
            have h7 := hh.off k k0 hk e3 (by rw [e1]; omega)
            rw [e1] at h7
            exact Int.le_trans h6 h7
        · intro k k0 hk e1
          rw [List.length_set] at hk
          rw [hlp]
          have hlt' : x < l.getD (par p) 0 := hlt
          by_cases e3 : k = p
          · rw [if_pos e3]; omega
          · rw [if_neg e3]
            have h7 := hh.off k k0 hk e3 (by rw [e1]; omega)
            rw [e1] at h7
            omega
      · rename_i hge
        have hge' : ¬ x < l.getD (par p) 0 := hge
        exact stop fun _ => by omega
    · rename_i h0
      exact stop fun h => absurd h h0
theorem HeapL.hole {l : List Int} (h : HeapL l) (p : Nat) (hp : p < l.length) : Hole l p :=
  ⟨fun k h0 hk _ _ => h k h0 hk, fun k h0 hk e q0 => by
    have h1 := h k h0 hk
    rw [e] at h1
    exact Int.le_trans (h p q0 hp) h1⟩
theorem su_hole (l : List Int) (p : Nat) (hp : p < l.length) (hh : Hole l p) : Hole (su l p).1 (su l p).2 ∧ (su l p).1.length ≤ 2 * (su l p).2 + 1 := by
  suffices ∀ k l p, l.length - p = k → p < l.length → Hole l p → Hole (su l p).1 (su l p).2 ∧ (su l p).1.length ≤ 2 * (su l p).2 + 1 from this _ l p rfl hp hh
  intro k
  induction k using Nat.strongRecOn with
  | ind k ih =>
    intro l p hk hp hh
    rw [su_eq]
    split
    · rename_i h
      have h1 := suc_lt h
      have h2 := @lt_suc l p
      have hch : suc l p = 2 * p + 1 ∨ suc l p = 2 * p + 2 := by unfold suc; split <;> omega
      have hps : par (suc l p) = p := by unfold par; omega
      have hmin : ∀ k, 0 < k → k < l.length → par k = p → l.getD (suc l p) 0 ≤ l.getD k 0 := by
        intro k k0 hk e
        have hk2 : k = 2 * p + 1 ∨ k = 2 * p + 1 + 1 := by unfold par at e; omega
        unfold suc
        by_cases hq : 2 * p + 1 + 1 < l.length ∧ ¬ l.getD (2 * p + 1) 0 < l.getD (2 * p + 1 + 1) 0
        · rw [if_pos hq]
          rcases hk2 with rfl | rfl
          · omega
          · exact Int.le_refl _
        · rw [if_neg hq]
          rcases hk2 with rfl | rfl
          · exact Int.le_refl _
          · have : l.getD (2 * p + 1) 0 < l.getD (2 * p + 1 + 1) 0 := Classical.byContradiction fun hn => hq ⟨hk, hn⟩
            omega
      refine ih (l.length - suc l p) (by omega) (l.set p (l.getD (suc l p) 0)) _ (by rw [List.length_set]) (by rw [List.length_set]; exact h1) ⟨?_, ?_⟩
      · intro k k0 hk e1 e2
        rw [List.length_set] at hk
        rw [getD_set hp, getD_set hp]
        by_cases e3 : k = p
        · subst e3
          rw [if_pos rfl, if_neg (by unfold par; omega)]
          exact hh.thru _ (by omega) h1 hps k0
        · rw [if_neg e3]
          by_cases e4 : par k = p
          · rw [if_pos e4]; exact hmin k k0 hk e4
          · rw [if_neg e4]; exact hh.off k k0 hk e3 e4
      · intro k k0 hk e1 q0
        rw [List.length_set] at hk
        have hks : k ≠ p := by unfold par at *; omega
        rw [getD_set hp, getD_set hp, if_neg hks, hps, if_pos rfl]
        have := hh.off k k0 hk hks (by rw [e1]; omega)
        rw [e1] at this
        exact this
    · rename_i h
      exact ⟨hh, by dsimp only; omega⟩
theorem sup_heap (x : Int) (l : List Int) (h : 0 < l.length) (hh : Hole l 0) : HeapL (sup x l) := by
  unfold sup
  obtain ⟨h1, h2⟩ := su_hole l 0 h hh
  have q := su_lens l 0 h
  have hp : (su l 0).2 < (su l 0).1.length := by rw [q.1]; exact q.2
  refine sd_heap x _ _ (by rw [List.length_set]; exact hp) ⟨?_, ?_⟩ ?_
  · intro k k0 hk e1 e2
    rw [List.length_set] at hk
    rw [getD_set hp, getD_set hp, if_neg e1, if_neg e2]
    exact h1.off k k0 hk e1 e2
  · intro k k0 hk e1 _
    rw [List.length_set] at hk
    unfold par at e1
    omega
  · intro k k0 hk e1
    rw [List.length_set] at hk
    unfold par at e1
    omega
theorem push_heap (x : Int) (l : List Int) (h : HeapL l) : HeapL (sd x (l ++ [x]) l.length) := by
  have hg : ∀ k, k < l.length → (l ++ [x]).getD k 0 = l.getD k 0 := fun k hk => by
    rw [List.getD_eq_getElem?_getD, List.getElem?_append_left hk, ← List.getD_eq_getElem?_getD]
  refine sd_heap x _ _ (by simp) ⟨?_, ?_⟩ ?_
  · intro k k0 hk e1 e2
    rw [List.length_append, List.length_singleton] at hk
    rw [hg k (by omega), hg (par k) (by unfold par; omega)]
    exact h k k0 (by omega)
  · intro k k0 hk e1 _
    rw [List.length_append, List.length_singleton] at hk
    unfold par at e1
    omega
  · intro k k0 hk e1
    rw [List.length_append, List.length_singleton] at hk
    unfold par at e1
    omega
theorem top_least {l : List Int} (h : HeapL l) : ∀ k, k < l.length → l.getD 0 0 ≤ l.getD k 0 := by
  intro k
  induction k using Nat.strongRecOn with
  | ind k ih =>
    intro hk
    by_cases k0 : 0 < k
    · exact Int.le_trans (ih (par k) (by unfold par; omega) (by unfold par; omega)) (h k k0 hk)
    · have : k = 0 := by omega
      rw [this]; exact Int.le_refl _
theorem hpop_heap (l : List Int) (h : 0 < l.length) (hh : HeapL l) : HeapL (hpop l).2 ∧ ∀ x ∈ l, (hpop l).1 ≤ x := by
  have ht : ∀ x ∈ l, l.getD 0 0 ≤ x := by
    intro x hx
    obtain ⟨k, hk, e⟩ := List.mem_iff_getElem.mp hx
    have := top_least hh k hk
    rwa [getD_lt hk, e] at this
  unfold hpop
  split
  · rename_i h1
    match l, h, h1, ht with
    | [a], _, _, ht => exact ⟨fun k k0 hk => absurd hk (Nat.not_lt_zero k), ht⟩
  · rename_i h1
    have q : 0 < l.dropLast.length := by rw [List.length_dropLast]; omega
    have hg : ∀ k, k < l.length - 1 → l.dropLast.getD k 0 = l.getD k 0 := fun k hk => by
      rw [List.getD_eq_getElem?_getD, List.getElem?_dropLast, if_pos hk, ← List.getD_eq_getElem?_getD]
    refine ⟨sup_heap _ _ (by rw [List.length_set]; exact q) ⟨?_, ?_⟩, ?_⟩
    · intro k k0 hk e1 e2
      rw [List.length_set, List.length_dropLast] at hk
      rw [getD_set q, getD_set q, if_neg e1, if_neg e2, hg k hk, hg (par k) (by unfold par; omega)]
      exact hh k k0 (by omega)
    · intro k k0 hk e1 h0
      exact absurd h0 (Nat.lt_irrefl 0)
    · rw [hg 0 (by omega)]
      exact ht
end
section
theorem skipTo_x (l : List Nat) (p : Nat) : ∀ q, p ≤ q → q < skipTo l p → l.getD q 0 = 120 := by
  revert p
  refine skipTo_ind l (fun p h ih => ?_) fun p h => ?_
  · intro q h1 h2
    rw [skipTo_eq, if_pos h] at h2
    by_cases e : q = p
    · rw [e]; exact h.2
    · exact ih q (by omega) h2
  · intro q h1 h2
    rw [skipTo_eq, if_neg h] at h2
    omega
theorem skipTo_free (l : List Nat) (p : Nat) : skipTo l p < l.length → l.getD (skipTo l p) 0 ≠ 120 := by
  revert p
  refine skipTo_ind l (fun p h ih => ?_) fun p h => ?_
  · rw [skipTo_eq, if_pos h]; exact ih
  · rw [skipTo_eq, if_neg h]; exact fun h1 h2 => h ⟨h1, h2⟩
theorem cut_at {l : List Nat} {k : Nat} (hk : k < l.length) (q : Nat) : (l.take k ++ 120 :: l.drop (k + 1)).getD q 0 = if q = k then 120 else l.getD q 0 := by
  have e : l.take k ++ 120 :: l.drop (k + 1) = l.set k 120 := by rw [List.set_eq_take_append_cons_drop, if_pos hk]
  rw [e, List.getD_eq_getElem?_getD, List.getElem?_set]
  by_cases h : k = q
  · subst h; simp [hk]
  · rw [if_neg h, if_neg (fun e => h e.symm), List.getD_eq_getElem?_getD]
theorem set_at {l : List Int} {p : Nat} {x : Int} (hp : p < l.length) (k : Nat) : (l.set p x).getD k 0 = if k = p then x else l.getD k 0 := by
  rw [List.getD_eq_getElem?_getD, List.getElem?_set]
  by_cases h : p = k
  · subst h; simp [hp]
  · rw [if_neg h, if_neg (fun e => h e.symm), List.getD_eq_getElem?_getD]
structure FInv (wn on pre : List Int) (st : List Nat) (ps : List Int) : Prop where
  l1 : st.length = wn.length + 6
  l2 : ps.length = wn.length
  cnt : st.count 120 ≤ pre.length
  x : ∀ q, q < wn.length + 6 → (st.getD q 0 = 120 ↔ ∃ c ∈ pre, ps.getD c.toNat 0 = (q : Int))
  ge : ∀ c ∈ pre, wn.getD c.toNat 0 ≤ ps.getD c.toNat 0
  lt : ∀ c ∈ pre, 0 ≤ ps.getD c.toNat 0 ∧ ps.getD c.toNat 0 < (wn.length : Int) + 6
  full : ∀ c ∈ pre, ∀ q, wn.getD c.toNat 0 ≤ q → q < ps.getD c.toNat 0 → ∃ b ∈ pre, ps.getD b.toNat 0 = q ∧ on.idxOf b < on.idxOf c
  inj : ∀ a ∈ pre, ∀ b ∈ pre, ps.getD a.toNat 0 = ps.getD b.toNat 0 → a = b
theorem fill_inv {wn on : List Int} (hwb : ∀ x ∈ wn, 0 ≤ x ∧ x ≤ 5) (hob : ∀ x ∈ on, 0 ≤ x ∧ x < (wn.length : Int)) (hnd : on.Nodup) (hlo : on.length ≤ wn.length) :
    ∀ pre post, on = pre ++ post → FInv wn on pre (filling wn pre).1 (filling wn pre).2 := by
  intro pre
  generalize hk : pre.length = k
  induction k generalizing pre with
  | zero =>
    intro post _
    have hpre := List.length_eq_zero_iff.mp hk
    subst hpre
    show FInv wn on [] (List.replicate (wn.length + 6) 46) (List.replicate wn.length 0)
    refine ⟨List.length_replicate, List.length_replicate, by simp [List.count_replicate], fun q hq => ?_, fun c h => absurd h List.not_mem_nil, fun c h => absurd h List.not_mem_nil, fun c h => absurd h List.not_mem_nil, fun c h => absurd h List.not_mem_nil⟩
    rw [List.getD_eq_getElem?_getD, List.getElem?_replicate, if_pos hq]
    constructor
    · intro h; exact absurd h (by decide)
    · rintro ⟨c, h, _⟩; exact absurd h List.not_mem_nil
  | succ k ih =>
    intro post hon
    have hne : pre ≠ [] := fun e => by rw [e] at hk; simp at hk
    obtain ⟨p0, car, rfl⟩ : ∃ p0 car, pre = p0 ++ [car] := ⟨_, _, (List.dropLast_concat_getLast hne).symm⟩
    have hk0 : p0.length = k := by rw [List.length_append, List.length_singleton] at hk; omega
    have hon2 : on = p0 ++ (car :: post) := by rw [hon, List.append_assoc]; rfl
    have I := ih p0 hk0 (car :: post) hon2
    have hf : filling wn (p0 ++ [car]) = fillStep wn (filling wn p0) car := by unfold filling; rw [List.foldl_append]; rfl
    rw [hf]
    unfold fillStep
    generalize (filling wn p0).1 = st at I
    generalize (filling wn p0).2 = ps at I
    dsimp only
    have hcar : car ∈ on := by rw [hon2]; simp
    have hcb := hob car hcar
    have hcn : car.toNat < wn.length := by omega
    have hcp : car.toNat < ps.length := by rw [I.l2]; exact hcn
    have hnin : car ∉ p0 := by
      intro hm
      rw [hon2, List.nodup_append] at hnd
      exact hnd.2.2 car hm car List.mem_cons_self rfl
    have hlen : p0.length + 1 ≤ wn.length := by
      rw [hon2, List.length_append, List.length_cons] at hlo; omega
    have hw : 0 ≤ wn.getD car.toNat 0 ∧ wn.getD car.toNat 0 ≤ 5 := by
      have e : wn.getD car.toNat 0 = wn[car.toNat] := by rw [List.getD_eq_getElem?_getD, List.getElem?_eq_getElem hcn, Option.getD_some]
      rw [e]; exact hwb _ (List.getElem_mem hcn)
    generalize hwv : wn.getD car.toNat 0 = wv at hw
    have hs1 := skipTo_ge st wv.toNat
    have hs2 := skipTo_x st wv.toNat
    have hs3 : skipTo st wv.toNat < st.length := skipTo_lt (by rw [I.l1]; have := I.cnt; omega)
    have hs4 := skipTo_free st wv.toNat hs3
    generalize skipTo st wv.toNat = K at hs1 hs2 hs3 hs4
    have hcut := cut_at hs3
    have hset : ∀ j, (ps.set car.toNat (K : Int)).getD j 0 = if j = car.toNat then (K : Int) else ps.getD j 0 := fun j => set_at hcp j
    have hold : ∀ c ∈ p0, (ps.set car.toNat (K : Int)).getD c.toNat 0 = ps.getD c.toNat 0 := by
      intro c hc
      rw [hset, if_neg]
      intro e
      have := hob c (by rw [hon2]; exact List.mem_append_left _ hc)
      have : c = car := by omega
      exact hnin (this ▸ hc)
    have hnew : (ps.set car.toNat (K : Int)).getD car.toNat 0 = (K : Int) := by rw [hset, if_pos rfl]
    have hl1 := I.l1
    have hi1 : ∀ b ∈ p0, on.idxOf b < p0.length := by
      intro b hb
      rw [hon2, List.idxOf_append, if_pos hb]
      exact List.idxOf_lt_length_iff.mpr hb
    have hi2 : on.idxOf car = p0.length := by
      rw [hon2, List.idxOf_append, if_neg hnin, List.idxOf_cons_self]; omega
    refine ⟨?_, by rw [List.length_set]; exact I.l2, ?_, ?_, ?_, ?_, ?_, ?_⟩
    · simp only [List.length_append, List.length_take, List.length_cons, List.length_drop]; omega
    · have := count_cut hs3
      have := I.cnt
      rw [List.length_append, List.length_singleton]; omega
    · intro q hq
      rw [hcut]
      by_cases e : q = K
      · rw [if_pos e]
        exact ⟨fun _ => ⟨car, by simp, by rw [hnew, e]⟩, fun _ => rfl⟩
      · rw [if_neg e, I.x q hq]
        constructor
        · rintro ⟨c, hc, h⟩; exact ⟨c, List.mem_append_left _ hc, by rw [hold c hc]; exact h⟩
        · rintro ⟨c, hc, h⟩
          rcases List.mem_append.mp hc with hc | hc
          · exact ⟨c, hc, by rw [← hold c hc]; exact h⟩
          · rw [List.mem_singleton.mp hc, hnew] at h
            exact absurd (Int.ofNat.inj h).symm e
    · intro c hc
      rcases List.mem_append.mp hc with hc | hc
      · rw [hold c hc]; exact I.ge c hc
      · rw [List.mem_singleton.mp hc, hnew, hwv]; omega
    · intro c hc
      rcases List.mem_append.mp hc with hc | hc
      · rw [hold c hc]; exact I.lt c hc
      · rw [List.mem_singleton.mp hc, hnew]; omega
    · intro c hc q h1 h2
      rcases List.mem_append.mp hc with hc | hc
      · rw [hold c hc] at h2
        obtain ⟨b, hb, e, ho⟩ := I.full c hc q h1 h2
        exact ⟨b, List.mem_append_left _ hb, by rw [hold b hb]; exact e, ho⟩
      · rw [List.mem_singleton.mp hc] at h1 h2 ⊢
        rw [hnew] at h2
        rw [hwv] at h1
        have h5 := hs2 q.toNat (by omega) (by omega)
        obtain ⟨b, hb, e⟩ := (I.x q.toNat (by omega)).mp h5
        exact ⟨b, List.mem_append_left _ hb, by rw [hold b hb, e]; omega, by rw [hi2]; exact hi1 b hb⟩
    · have hKn : ∀ a ∈ p0, ps.getD a.toNat 0 ≠ (K : Int) := by
        intro a ha e
        exact hs4 ((I.x K (by omega)).mpr ⟨a, ha, e⟩)
      intro a ha b hb e
      rcases List.mem_append.mp ha with ha | ha <;> rcases List.mem_append.mp hb with hb | hb
      · rw [hold a ha, hold b hb] at e; exact I.inj a ha b hb e
      · rw [List.mem_singleton.mp hb, hnew, hold a ha] at e; exact absurd e (hKn a ha)
      · rw [List.mem_singleton.mp ha, hnew, hold b hb] at e; exact absurd e.symm (hKn b hb)
      · rw [List.mem_singleton.mp ha, List.mem_singleton.mp hb]
structure Ord (n : Nat) (on : List Int) : Prop where
  nd : on.Nodup
  mem : ∀ x : Int, x ∈ on ↔ 0 ≤ x ∧ x < (n : Int)
  len : on.length = n
theorem fill_stable {wn on : List Int} (hwb : ∀ x ∈ wn, 0 ≤ x ∧ x ≤ 5) (ho : Ord wn.length on) :
    (filling wn on).2.length = wn.length ∧ Stable wn.length (fun c => wn.getD c 0) (fun c => (filling wn on).2.getD c 0) (fun c => on.idxOf (c : Int)) := by
  have I := fill_inv hwb (fun x hx => (ho.mem x).mp hx) ho.nd (Nat.le_of_eq ho.len) on [] (List.append_nil on).symm
  have hm : ∀ c : Nat, c < wn.length → (c : Int) ∈ on := fun c hc => (ho.mem c).mpr ⟨by omega, by omega⟩
  refine ⟨I.l2, ⟨fun a b ha hb e => ?_, fun a ha => I.ge a (hm a ha), fun a q ha h1 h2 => ?_⟩⟩
  · exact Int.ofNat.inj (I.inj a (hm a ha) b (hm b hb) e)
  · obtain ⟨b, hb, e, h3⟩ := I.full a (hm a ha) q h1 h2
    have hbb := (ho.mem b).mp hb
    refine ⟨b.toNat, by omega, e, ?_⟩
    have e2 : ((b.toNat : Nat) : Int) = b := by omega
    rw [e2]; exact h3
end
section
theorem ranges0_snoc (i : Nat) : rangeKs 0 (i + 1) = rangeKs 0 i ++ [(i : Int)] := by
  simp [rangeKs, List.range_succ]
theorem mem_ranges0 {n : Nat} {x : Int} : x ∈ rangeKs 0 n ↔ 0 ≤ x ∧ x < (n : Int) := by
  simp only [rangeKs, List.mem_map, List.mem_range]
  constructor
  · rintro ⟨i, hi, rfl⟩; omega
  · rintro ⟨h1, h2⟩; exact ⟨x.toNat, by omega, by omega⟩
theorem idx_inj {n : Nat} {on : List Int} (ho : Ord n on) {a b : Nat} (ha : a < n) (hb : b < n) (e : on.idxOf (a : Int) = on.idxOf (b : Int)) : a = b := by
  have h1 : on.idxOf (a : Int) < on.length := List.idxOf_lt_length_iff.mpr ((ho.mem a).mpr ⟨by omega, by omega⟩)
  have h2 : on.idxOf (b : Int) < on.length := List.idxOf_lt_length_iff.mpr ((ho.mem b).mpr ⟨by omega, by omega⟩)
  have e1 := List.getElem_idxOf h1
  have e2 := List.getElem_idxOf h2
  have : (a : Int) = (b : Int) := by rw [← e1, ← e2]; congr 1
  exact Int.ofNat.inj this
theorem at_idx {n : Nat} {on : List Int} (ho : Ord n on) {c : Nat} (hc : c < n) : on.getD (idx on (c : Int)).toNat 0 = (c : Int) := by
  have h1 : on.idxOf (c : Int) < on.length := List.idxOf_lt_length_iff.mpr ((ho.mem c).mpr ⟨by omega, by omega⟩)
  unfold idx
  rw [show ((on.idxOf (c : Int) : Nat) : Int).toNat = on.idxOf (c : Int) by omega, List.getD_eq_getElem?_getD, List.getElem?_eq_getElem h1, Option.getD_some]
  exact List.getElem_idxOf h1
theorem sweepIn_inv {wn on : List Int} (ho : Ord wn.length on) (h : List Int) (p : Int) (hh : HeapL h) (hnd : h.Nodup) (hlt : ∀ i ∈ h, ∃ c : Nat, c < wn.length ∧ i = idx on (c : Int) ∧ wn.getD c 0 < p) :
    HeapL (sweepIn wn on h p) ∧ (sweepIn wn on h p).Nodup ∧ ∀ i, i ∈ sweepIn wn on h p ↔ i ∈ h ∨ ∃ c : Nat, c < wn.length ∧ wn.getD c 0 = p ∧ i = idx on (c : Int) := by
  unfold sweepIn
  suffices ∀ j, j ≤ wn.length → HeapL ((rangeKs 0 j).foldl (pushIf wn on p) h) ∧ ((rangeKs 0 j).foldl (pushIf wn on p) h).Nodup ∧ ∀ i, i ∈ (rangeKs 0 j).foldl (pushIf wn on p) h ↔ i ∈ h ∨ ∃ c : Nat, c < j ∧ wn.getD c 0 = p ∧ i = idx on (c : Int) from this _ (Nat.le_refl _)
  intro j
  induction j with
  | zero =>
    intro _
    refine ⟨hh, hnd, fun i => ⟨.inl, ?_⟩⟩
    rintro (h | ⟨c, hc, _⟩)
    · exact h
    · exact absurd hc (Nat.not_lt_zero c)
  | succ j ih =>
    intro hj
    obtain ⟨a1, a2, a3⟩ := ih (by omega)
    rw [ranges0_snoc, List.foldl_append]
    generalize (rangeKs 0 j).foldl (pushIf wn on p) h = g at a1 a2 a3
    show HeapL (pushIf wn on p g j) ∧ (pushIf wn on p g j).Nodup ∧ ∀ i, i ∈ pushIf wn on p g j ↔ _
    unfold pushIf
    rw [show ((j : Int)).toNat = j by omega]
    by_cases hw : wn.getD j 0 = p
    · rw [if_pos hw]
      have hpm := push_perm (idx on (j : Int)) g
      have hni : idx on (j : Int) ∉ g := by
        intro hm
        rcases (a3 _).mp hm with hm | ⟨c, hc, _, e⟩
        · obtain ⟨c, hc, e, h3⟩ := hlt _ hm
          have := idx_inj ho (a := j) (b := c) (by omega) hc (Int.ofNat.inj e)
          subst this; omega
        · have := idx_inj ho (a := j) (b := c) (by omega) (by omega) (Int.ofNat.inj e)
          omega
      refine ⟨push_heap _ _ a1, hpm.nodup_iff.mpr (List.nodup_cons.mpr ⟨hni, a2⟩), fun i => ?_⟩
      rw [hpm.mem_iff, List.mem_cons, a3]
      constructor
      · rintro (rfl | h | ⟨c, hc, h1, h2⟩)
        · exact .inr ⟨j, Nat.lt_succ_self j, hw, rfl⟩
        · exact .inl h
        · exact .inr ⟨c, by omega, h1, h2⟩
      · rintro (h | ⟨c, hc, h1, h2⟩)
        · exact .inr (.inl h)
        · by_cases e : c = j
          · subst e; exact .inl h2
          · exact .inr (.inr ⟨c, by omega, h1, h2⟩)
    · rw [if_neg hw]
      refine ⟨a1, a2, fun i => ?_⟩
      rw [a3]
      constructor
      · rintro (h | ⟨c, hc, h1, h2⟩)
        · exact .inl h
        · exact .inr ⟨c, by omega, h1, h2⟩
      · rintro (h | ⟨c, hc, h1, h2⟩)
        · exact .inl h
        · by_cases e : c = j
          · subst e; exact absurd h1 hw
          · exact .inr ⟨c, by omega, h1, h2⟩
structure SInv (wn on : List Int) (p : Nat) (h pl : List Int) (pk : List Nat) : Prop where
  heap : HeapL h
  nd : h.Nodup
  len : pl.length = wn.length
  mem : ∀ i, i ∈ h ↔ ∃ c : Nat, c < wn.length ∧ i = idx on (c : Int) ∧ wn.getD c 0 < (p : Int) ∧ c ∉ pk
  car : ∀ c ∈ pk, c < wn.length ∧ wn.getD c 0 ≤ pl.getD c 0 ∧ pl.getD c 0 < (p : Int)
  inj : ∀ a ∈ pk, ∀ b ∈ pk, pl.getD a 0 = pl.getD b 0 → a = b
  full : ∀ c ∈ pk, ∀ q, wn.getD c 0 ≤ q → q < pl.getD c 0 → ∃ b ∈ pk, pl.getD b 0 = q ∧ on.idxOf (b : Int) < on.idxOf (c : Int)
  wait : ∀ c, c < wn.length → c ∉ pk → ∀ q, wn.getD c 0 ≤ q → q < (p : Int) → ∃ b ∈ pk, pl.getD b 0 = q ∧ on.idxOf (b : Int) < on.idxOf (c : Int)
theorem sweep_inv {wn on : List Int} (hwb : ∀ x ∈ wn, 0 ≤ x ∧ x ≤ 5) (ho : Ord wn.length on) : ∀ p, ∃ pk, SInv wn on p (sweeping wn on (rangeKs 0 p)).1 (sweeping wn on (rangeKs 0 p)).2 pk := by
  have hw0 : ∀ c, c < wn.length → 0 ≤ wn.getD c 0 := fun c hc => by rw [getD_lt hc]; exact (hwb _ (List.getElem_mem hc)).1
  intro p
  induction p with
  | zero =>
    refine ⟨[], fun k _ hk => absurd hk (Nat.not_lt_zero k), List.nodup_nil, List.length_replicate, fun i => ⟨fun h => absurd h List.not_mem_nil, ?_⟩, fun c h => absurd h List.not_mem_nil, fun c h => absurd h List.not_mem_nil, fun c h => absurd h List.not_mem_nil, fun c hc _ q h1 h2 => ?_⟩
    · rintro ⟨c, hc, _, h2, _⟩
      have := hw0 c hc
      omega
    · have := hw0 c hc
      omega
  | succ p ih =>
    obtain ⟨pk, I⟩ := ih
    have hsn : sweeping wn on (rangeKs 0 (p + 1)) = sweepStep wn on (sweeping wn on (rangeKs 0 p)) p := by rw [ranges0_snoc]; unfold sweeping; rw [List.foldl_append]; rfl
    rw [hsn]
    generalize (sweeping wn on (rangeKs 0 p)) = stt at I
    obtain ⟨h, pl⟩ := stt
    dsimp only at I
    unfold sweepStep
    obtain ⟨b1, b2, b3⟩ := sweepIn_inv ho h p I.heap I.nd fun i hi => by
      obtain ⟨c, hc, e, h1, _⟩ := (I.mem i).mp hi
      exact ⟨c, hc, e, h1⟩
    dsimp only
    generalize sweepIn wn on h p = g at b1 b2 b3
    have hg : ∀ i, i ∈ g ↔ ∃ c : Nat, c < wn.length ∧ i = idx on (c : Int) ∧ wn.getD c 0 < ((p + 1 : Nat) : Int) ∧ c ∉ pk := by
      intro i
      rw [b3, I.mem]
      constructor
      · rintro (⟨c, hc, e, h1, h2⟩ | ⟨c, hc, h1, e⟩)
        · exact ⟨c, hc, e, by omega, h2⟩
        · refine ⟨c, hc, e, by omega, fun hm => ?_⟩
          have := I.car c hm
          omega
      · rintro ⟨c, hc, e, h1, h2⟩
        by_cases hp : wn.getD c 0 = p
        · exact .inr ⟨c, hc, hp, e⟩
        · exact .inl ⟨c, hc, e, by omega, h2⟩
    by_cases hpos : 0 < g.length
    · rw [if_pos hpos]
      have hpm := hpop_perm g hpos
      obtain ⟨c1, c2⟩ := hpop_heap g hpos b1
      generalize (hpop g).1 = v at hpm c2
      generalize (hpop g).2 = r at hpm c1
      obtain ⟨c0, hc0, ev, hw0', hn0⟩ := (hg v).mp (hpm.mem_iff.mp List.mem_cons_self)
      have hat : on.getD v.toNat 0 = (c0 : Int) := by rw [ev]; exact at_idx ho hc0
      rw [hat, show ((c0 : Int)).toNat = c0 by omega]
      have hcp : c0 < pl.length := by rw [I.len]; exact hc0
      have hset : ∀ j, (pl.set c0 (p : Int)).getD j 0 = if j = c0 then (p : Int) else pl.getD j 0 := fun j => set_at hcp j
      have hold : ∀ c ∈ pk, (pl.set c0 (p : Int)).getD c 0 = pl.getD c 0 := fun c hc => by
        rw [hset, if_neg]; intro e; exact hn0 (e ▸ hc)
      have hnew : (pl.set c0 (p : Int)).getD c0 0 = (p : Int) := by rw [hset, if_pos rfl]
      have hvr := List.nodup_cons.mp (hpm.nodup_iff.mpr b2)
      refine ⟨c0 :: pk, c1, hvr.2, by rw [List.length_set]; exact I.len, fun i => ?_, fun c hc => ?_, fun a ha b hb e => ?_, fun c hc q h1 h2 => ?_, fun c hc hn q h1 h2 => ?_⟩
      · constructor
        · intro hi
          obtain ⟨c, hc, e, h1, h2⟩ := (hg i).mp (hpm.mem_iff.mp (List.mem_cons_of_mem _ hi))
          refine ⟨c, hc, e, h1, fun hm => ?_⟩
          rcases List.mem_cons.mp hm with rfl | hm
          · exact hvr.1 (by rw [ev, ← e]; exact hi)
          · exact h2 hm
        · rintro ⟨c, hc, e, h1, h2⟩
          have h3 := (hg i).mpr ⟨c, hc, e, h1, fun hm => h2 (List.mem_cons_of_mem _ hm)⟩
          rcases List.mem_cons.mp (hpm.mem_iff.mpr h3) with h4 | h4
          · have := idx_inj ho hc hc0 (Int.ofNat.inj (e.symm.trans (h4.trans ev)))
            exact absurd (this ▸ List.mem_cons_self) h2
          · exact h4
      · rcases List.mem_cons.mp hc with rfl | hc
        · rw [hnew]; exact ⟨hc0, by omega, by omega⟩
        · rw [hold c hc]; have := I.car c hc; exact ⟨this.1, this.2.1, by omega⟩
      · rcases List.mem_cons.mp ha with ea | ha' <;> rcases List.mem_cons.mp hb with eb | hb'
        · rw [ea, eb]
        · rw [ea, hnew, hold b hb'] at e; have := I.car b hb'; omega
        · rw [eb, hnew, hold a ha'] at e; have := I.car a ha'; omega
        · rw [hold a ha', hold b hb'] at e; exact I.inj a ha' b hb' e
      · rcases List.mem_cons.mp hc with rfl | hc
        · rw [hnew] at h2
          obtain ⟨b, hb, e, h3⟩ := I.wait c hc0 hn0 q h1 h2
          exact ⟨b, List.mem_cons_of_mem _ hb, by rw [hold b hb]; exact e, h3⟩
        · rw [hold c hc] at h2
          obtain ⟨b, hb, e, h3⟩ := I.full c hc q h1 h2
          exact ⟨b, List.mem_cons_of_mem _ hb, by rw [hold b hb]; exact e, h3⟩
      · have hn' : c ∉ pk := fun hm => hn (List.mem_cons_of_mem _ hm)
        by_cases hq : q = p
        · subst hq
          refine ⟨c0, List.mem_cons_self, hnew, ?_⟩
          have h3 := c2 _ ((hg (idx on (c : Int))).mpr ⟨c, hc, rfl, by omega, hn'⟩)
          rw [ev] at h3
          have h4 : on.idxOf (c0 : Int) ≤ on.idxOf (c : Int) := Int.ofNat_le.mp h3
          refine Nat.lt_of_le_of_ne h4 fun e => ?_
          have := idx_inj ho hc0 hc e
          subst this
          exact hn List.mem_cons_self
        · obtain ⟨b, hb, e, h3⟩ := I.wait c hc hn' q h1 (by omega)
          exact ⟨b, List.mem_cons_of_mem _ hb, by rw [hold b hb]; exact e, h3⟩
    · rw [if_neg hpos]
      refine ⟨pk, b1, b2, I.len, hg, fun c hc => ?_, I.inj, I.full, fun c hc hn q h1 h2 => ?_⟩
      · have := I.car c hc
        refine ⟨this.1, this.2.1, ?_⟩
        show pl.getD c 0 < _
        omega
      · by_cases hq : q = p
        · subst hq
          have h3 := (hg (idx on (c : Int))).mpr ⟨c, hc, rfl, by omega, hn⟩
          have := List.length_pos_of_mem h3
          exact absurd this hpos
        · exact I.wait c hc hn q h1 (by omega)
theorem sweep_stable {wn on : List Int} (hwb : ∀ x ∈ wn, 0 ≤ x ∧ x ≤ 5) (ho : Ord wn.length on) :
    (sweeping wn on (rangeKs 0 (wn.length + 6))).1 = [] ∧ (sweeping wn on (rangeKs 0 (wn.length + 6))).2.length = wn.length ∧
      Stable wn.length (fun c => wn.getD c 0) (fun c => (sweeping wn on (rangeKs 0 (wn.length + 6))).2.getD c 0) (fun c => on.idxOf (c : Int)) := by
  obtain ⟨pk, I⟩ := sweep_inv hwb ho (wn.length + 6)
  generalize (sweeping wn on (rangeKs 0 (wn.length + 6))).1 = h at I
  generalize (sweeping wn on (rangeKs 0 (wn.length + 6))).2 = pl at I
  have hall : ∀ c, c < wn.length → c ∈ pk := by
    intro c hc
    refine Classical.byContradiction fun hn => ?_
    have h5 : wn.getD c 0 ≤ 5 := by rw [getD_lt hc]; exact (hwb _ (List.getElem_mem hc)).2
    have := len_le_of_sub (l := (List.range (wn.length + 1)).map fun (i : Nat) => (5 : Int) + (i : Int)) (m := (List.range wn.length).map fun c => pl.getD c 0) (nodup_range' _ _) (by
      intro x hx
      obtain ⟨i, hi, rfl⟩ := List.mem_map.mp hx
      have hi := List.mem_range.mp hi
      obtain ⟨b, hb, e, _⟩ := I.wait c hc hn (5 + i) (by omega) (by omega)
      exact List.mem_map.mpr ⟨b, List.mem_range.mpr (I.car b hb).1, e⟩)
    simp only [List.length_map, List.length_range] at this
    omega
  refine ⟨?_, I.len, ⟨fun a b ha hb e => I.inj a (hall a ha) b (hall b hb) e, fun a ha => (I.car a (hall a ha)).2.1, fun a q ha h1 h2 => ?_⟩⟩
  · cases h with
    | nil => rfl
    | cons i r =>
      obtain ⟨c, hc, _, _, hn⟩ := (I.mem i).mp List.mem_cons_self
      exact absurd (hall c hc) hn
  · obtain ⟨b, hb, e, h3⟩ := I.full a (hall a ha) q h1 h2
    exact ⟨b, (I.car b hb).1, e, h3⟩
theorem list_ext0 {a b : List Int} (hl : a.length = b.length) (h : ∀ k, k < a.length → a.getD k 0 = b.getD k 0) : a = b := by
  refine List.ext_getElem hl fun i h1 h2 => ?_
  have := h i h1
  rwa [getD_lt h1, getD_lt h2] at this
theorem sweep_fill {wn on : List Int} (hwb : ∀ x ∈ wn, 0 ≤ x ∧ x ≤ 5) (ho : Ord wn.length on) :
    sweeping wn on (rangeKs 0 (wn.length + 6)) = ([], (filling wn on).2) := by
  obtain ⟨h1, h2, h3⟩ := sweep_stable hwb ho
  obtain ⟨h4, h5⟩ := fill_stable hwb ho
  refine Prod.ext h1 (list_ext0 (h2.trans h4.symm) fun k hk => ?_)
  exact h3.unique h5 k (by rwa [h2] at hk)
end
section
theorem wn_map (wn : List Int) : wn = (List.range wn.length).map fun c => wn.getD c 0 := by
  refine List.ext_getElem (by simp) fun i h1 h2 => ?_
  simp [List.getD_eq_getElem?_getD, h1]
theorem cntIn_wish (wn : List Int) (a p : Nat) : cntIn wn a p = (wish wn.length (fun c => wn.getD c 0) a p).length := by
  unfold cntIn wish
  rw [← List.countP_eq_length_filter]
  conv => lhs; rw [wn_map wn]
  rw [List.countP_map]
  rfl
theorem takenP_iff (wn : List Int) (p : Nat) : takenP wn p = true ↔ ∃ a, a ≤ p ∧ (p : Int) - (a : Int) < ((wish wn.length (fun c => wn.getD c 0) a p).length : Int) := by
  unfold takenP
  rw [List.any_eq_true]
  constructor
  · rintro ⟨a, ha, h⟩
    rw [decide_eq_true_eq, cntIn_wish] at h
    exact ⟨a, by have := List.mem_range.mp ha; omega, h⟩
  · rintro ⟨a, ha, h⟩
    refine ⟨a, List.mem_range.mpr (by omega), ?_⟩
    rw [decide_eq_true_eq, cntIn_wish]
    exact h
theorem takens_inc (wn : List Int) (n : Nat) : (takens wn n).Pairwise (· < ·) := by
  unfold takens
  rw [List.pairwise_map]
  refine List.Pairwise.filter _ (List.pairwise_lt_range.imp ?_)
  intro a b h
  exact Int.ofNat_lt.mpr h
theorem mem_takens {wn : List Int} {n : Nat} {x : Int} : x ∈ takens wn n ↔ ∃ p : Nat, p < n ∧ takenP wn p = true ∧ x = (p : Int) := by
  unfold takens
  simp only [List.mem_map, List.mem_filter, List.mem_range]
  constructor
  · rintro ⟨p, ⟨h1, h2⟩, e⟩; exact ⟨p, h1, h2, e.symm⟩
  · rintro ⟨p, h1, h2, e⟩; exact ⟨p, ⟨h1, h2⟩, e.symm⟩
theorem inc_nodup {l : List Int} (h : l.Pairwise (· < ·)) : l.Nodup := h.imp fun h => Int.ne_of_lt h
structure Placed (wn pn : List Int) : Prop where
  len : pn.length = wn.length
  nd : pn.Nodup
  mem : ∀ x, x ∈ pn ↔ x ∈ takens wn (wn.length + 6)
  bnd : ∀ x ∈ pn, 0 ≤ x ∧ x + 1 < (wn.length : Int) + 6
  wish : ∀ x ∈ wn, x ∈ pn
theorem mem_getD {l : List Int} {x : Int} : x ∈ l ↔ ∃ k, k < l.length ∧ l.getD k 0 = x := by
  rw [List.mem_iff_getElem]
  constructor
  · rintro ⟨k, hk, e⟩; exact ⟨k, hk, by rw [getD_lt hk]; exact e⟩
  · rintro ⟨k, hk, e⟩; exact ⟨k, hk, by rw [getD_lt hk] at e; exact e⟩
theorem fill_placed {wn on : List Int} (hwb : ∀ x ∈ wn, 0 ≤ x ∧ x ≤ 5) (ho : Ord wn.length on) : Placed wn (filling wn on).2 := by
  obtain ⟨hl, S⟩ := fill_stable hwb ho
  generalize (filling wn on).2 = pn at hl S
  have hw : ∀ c, c < wn.length → 0 ≤ wn.getD c 0 ∧ wn.getD c 0 ≤ 5 := fun c hc => by rw [getD_lt hc]; exact hwb _ (List.getElem_mem hc)
  have hb : ∀ c, c < wn.length → 0 ≤ pn.getD c 0 ∧ pn.getD c 0 + 1 < (wn.length : Int) + 6 := by
    intro c hc
    have h1 : pn.getD c 0 - wn.getD c 0 < wn.length := S.near c hc
    have h2 : wn.getD c 0 ≤ pn.getD c 0 := S.ge c hc
    have := hw c hc
    omega
  have hT : ∀ p : Nat, (∃ c, c < wn.length ∧ pn.getD c 0 = (p : Int)) ↔ takenP wn p = true := fun p => by
    rw [takenP_iff]
    exact S.taken (fun a ha => (hw a ha).1) p
  have hM : ∀ x, x ∈ pn ↔ x ∈ takens wn (wn.length + 6) := by
    intro x
    rw [mem_getD, mem_takens]
    constructor
    · rintro ⟨c, hc, e⟩
      rw [hl] at hc
      have := hb c hc
      exact ⟨x.toNat, by omega, (hT x.toNat).mp ⟨c, hc, by omega⟩, by omega⟩
    · rintro ⟨p, hp, h1, e⟩
      obtain ⟨c, hc, e2⟩ := (hT p).mpr h1
      exact ⟨c, by omega, by omega⟩
  refine ⟨hl, ?_, hM, fun x hx => ?_, fun x hx => ?_⟩
  · rw [List.nodup_iff_pairwise_ne, List.pairwise_iff_getElem]
    intro i j h1 h2 hij e
    have := S.inj i j (by omega) (by omega) (by show pn.getD i 0 = pn.getD j 0; rw [getD_lt h1, getD_lt h2]; exact e)
    omega
  · obtain ⟨c, hc, e⟩ := mem_getD.mp hx
    have := hb c (by omega)
    omega
  · have hx0 := hwb x hx
    rw [hM, mem_takens]
    refine ⟨x.toNat, by omega, ?_, by omega⟩
    rw [takenP_iff]
    refine ⟨x.toNat, Nat.le_refl _, ?_⟩
    obtain ⟨c, hc, e⟩ := mem_getD.mp hx
    have : c ∈ wish wn.length (fun c => wn.getD c 0) (x.toNat : Nat) (x.toNat : Nat) := mem_wish.mpr ⟨hc, by omega, by omega⟩
    have := List.length_pos_of_mem this
    omega
theorem perm_of_mem {a b : List Int} (ha : a.Nodup) (hb : b.Nodup) (h : ∀ x, x ∈ a ↔ x ∈ b) : a.Perm b := by
  rw [List.perm_iff_count]
  intro x
  rw [ha.count, hb.count]
  simp only [h x]
theorem Placed.perm {wn pn : List Int} (P : Placed wn pn) : pn.Perm (takens wn (wn.length + 6)) := perm_of_mem P.nd (inc_nodup (takens_inc ..)) P.mem
theorem inc_unique {a b : List Int} (ha : a.Pairwise (· < ·)) (hb : b.Pairwise (· < ·)) (h : a.Perm b) : a = b :=
  h.eq_of_pairwise (fun x y _ _ h1 h2 => absurd h1 (Int.lt_asymm h2)) ha hb
theorem le_nodup_inc {l : List Int} (h : l.Pairwise (· ≤ ·)) (hn : l.Nodup) : l.Pairwise (· < ·) := by
  refine (h.and hn).imp fun h => ?_
  have h1 := h.1
  have h2 := h.2
  omega
theorem Placed.sorted {wn pn sn : List Int} (P : Placed wn pn) (hp : sn.Perm pn) (hs : sn.Pairwise (· ≤ ·)) : sn = takens wn (wn.length + 6) :=
  inc_unique (le_nodup_inc hs (hp.nodup_iff.mpr P.nd)) (takens_inc ..) (hp.trans P.perm)
end
section
theorem ord_of {n : Nat} {on : List Int} (h : on.Perm (rangeKs 0 n)) : Ord n on := by
  refine ⟨?_, fun x => ?_, by rw [h.length_eq, rangeKs_length]⟩
  · refine h.nodup_iff.mpr ?_
    unfold rangeKs
    exact nodup_map List.nodup_range fun a _ b _ e => by omega
  · rw [h.mem_iff]; exact mem_ranges0
theorem range_flat (l : List Int) (g : Int → List Row) : (List.range l.length).flatMap (fun i => g (l.getD i 0)) = l.flatMap g := by
  conv => rhs; rw [wn_map l]
  rw [List.flatMap_map]
theorem flat_filter (l : List Int) (p : Int → Bool) (g : Int → Row) : l.flatMap (fun x => if p x = true then [] else [g x]) = (l.filter fun x => !p x).map g := by
  induction l with
  | nil => rfl
  | cons a l ih =>
    rw [List.flatMap_cons, ih, List.filter_cons]
    cases h : p a <;> simp
theorem flat_congr {f g : Nat → List Row} (n : Nat) (h : ∀ i, i < n → f i = g i) : (List.range n).flatMap f = (List.range n).flatMap g := by
  rw [List.flatMap_def, List.flatMap_def, List.map_congr_left fun i hi => h i (List.mem_range.mp hi)]
theorem rows_eq {wn pn : List Int} (P : Placed wn pn) : (cdRows wn pn).map rowOf = lawRows wn pn := by
  have hc1 : ∀ x ∈ pn, pn.count x = 1 := fun x hx => by rw [P.nd.count, if_pos hx]
  unfold cdRows lawRows
  rw [List.map_append]
  congr 1
  · unfold cdUp rowsUp
    rw [List.map_flatMap]
    rw [List.flatMap_def, List.flatMap_def, List.map_congr_left fun i hi => ?_]
    have hi := List.mem_range.mp hi
    have hm : wn.getD i 0 ∈ wn := by rw [getD_lt hi]; exact List.getElem_mem hi
    have h1 := hc1 _ (P.wish _ hm)
    have h2 : 0 < wn.count (wn.getD i 0) := List.count_pos_iff.mpr hm
    unfold cdStep rowStep
    rw [h1]
    by_cases hq : wn.getD i 0 ∈ wn.take i
    · rw [if_pos (.inl hq), if_neg (fun h => h.1 hq)]; rfl
    · by_cases hz : wn.count (wn.getD i 0) = 1
      · rw [if_pos (.inr hz), if_neg (fun h => by omega)]; rfl
      · rw [if_neg (fun h => h.elim hq hz), if_pos ⟨hq, by omega⟩]; rfl
  · have e : cdUp (cdStep2 wn pn) pn.length = (pn.filter fun x => decide (x ∉ wn)).map fun x => ((0 : Int), (1 : Int), x) := by
      have h3 := flat_filter pn (fun x => decide (x ∈ wn)) fun x => ((0 : Int), (1 : Int), x)
      have e2 : (pn.filter fun x => !decide (x ∈ wn)) = pn.filter fun x => decide (x ∉ wn) := by
        congr 1; funext x; simp
      rw [e2] at h3
      rw [← h3, ← range_flat]
      unfold cdUp
      refine flat_congr _ fun i hi => ?_
      have hm : pn.getD i 0 ∈ pn := by rw [getD_lt hi]; exact List.getElem_mem hi
      have hnt : pn.getD i 0 ∉ pn.take i := by
        intro h
        obtain ⟨j, hj, e⟩ := List.mem_take_iff_getElem.mp h
        have h4 := List.pairwise_iff_getElem.mp P.nd j i (by omega) hi (by omega)
        rw [getD_lt hi] at e
        exact h4 e
      unfold cdStep2
      rw [hc1 _ hm]
      by_cases hq : pn.getD i 0 ∈ wn
      · rw [if_pos (.inl hq), if_pos (decide_eq_true hq)]
      · rw [if_neg (fun h => h.elim hq hnt), if_neg (fun h => hq (of_decide_eq_true h))]; rfl
    rw [e, List.map_map]
    rfl
noncomputable def freeP (wn : List Int) (i : Nat) : Bool := decide ((i : Int) ∉ takens wn (wn.length + 6))
theorem free_eq (wn : List Int) (N : Nat) : (rangeKs 0 N).filter (fun x => decide (x ∉ takens wn (wn.length + 6))) = ((List.range N).filter (freeP wn)).map fun (i : Nat) => (i : Int) := by
  unfold rangeKs
  rw [List.filter_map]
  have e : ((fun x : Int => decide (x ∉ takens wn (wn.length + 6))) ∘ fun (i : Nat) => (0 : Int) + (i : Int)) = freeP wn := by
    funext i
    simp [freeP]
  rw [e]
  refine List.map_congr_left fun i _ => ?_
  omega
theorem Placed.sld {wn pn : List Int} (P : Placed wn pn) : (takens wn (wn.length + 6)).length = wn.length ∧ (∀ k, k < (takens wn (wn.length + 6)).length → 0 ≤ (takens wn (wn.length + 6)).getD k 0 ∧ (takens wn (wn.length + 6)).getD k 0 + 1 < ((wn.length + 6 : Nat) : Int)) ∧
    ∀ k, k + 1 < (takens wn (wn.length + 6)).length → (takens wn (wn.length + 6)).getD k 0 < (takens wn (wn.length + 6)).getD (k + 1) 0 := by
  refine ⟨by rw [← P.perm.length_eq, P.len], fun k hk => ?_, fun k hk => ?_⟩
  · have h := P.bnd _ ((P.mem _).mpr (List.getElem_mem hk))
    rw [getD_lt hk]
    omega
  · have h := List.pairwise_iff_getElem.mp (takens_inc wn (wn.length + 6)) k (k + 1) (by omega) hk (by omega)
    rw [getD_lt hk, getD_lt (by omega)]
    exact h
noncomputable def dists (wn pn : List Int) : List Int := (rangeKs 0 wn.length).map fun car => pn.getD car.toNat 0 - wn.getD car.toNat 0
structure IsFar (wn pn : List Int) (M : Int) : Prop where
  mem : M ∈ dists wn pn
  top : ∀ a ∈ dists wn pn, a ≤ M
theorem mem_dists {wn pn : List Int} {d : Int} : d ∈ dists wn pn ↔ ∃ c : Nat, c < wn.length ∧ d = pn.getD c 0 - wn.getD c 0 := by
  unfold dists
  rw [List.mem_map]
  constructor
  · rintro ⟨car, hc, rfl⟩
    have := mem_ranges0.mp hc
    exact ⟨car.toNat, by omega, rfl⟩
  · rintro ⟨c, hc, rfl⟩
    exact ⟨(c : Int), mem_ranges0.mpr ⟨by omega, by omega⟩, rfl⟩
theorem by_wish {wn zn : List Int} (ho : Ord wn.length zn) (hz : zn.Pairwise fun x y => wn.getD x.toNat 0 ≤ wn.getD y.toNat 0) {a b : Nat} (ha : a < wn.length) (hb : b < wn.length) (h : zn.idxOf (a : Int) < zn.idxOf (b : Int)) : wn.getD a 0 ≤ wn.getD b 0 := by
  have h1 : zn.idxOf (a : Int) < zn.length := List.idxOf_lt_length_iff.mpr ((ho.mem a).mpr ⟨by omega, by omega⟩)
  have h2 : zn.idxOf (b : Int) < zn.length := List.idxOf_lt_length_iff.mpr ((ho.mem b).mpr ⟨by omega, by omega⟩)
  have h3 := List.pairwise_iff_getElem.mp hz _ _ h1 h2 h
  rw [List.getElem_idxOf h1, List.getElem_idxOf h2] at h3
  simpa using h3
theorem wish_rises {wn zn : List Int} (hwb : ∀ x ∈ wn, 0 ≤ x ∧ x ≤ 5) (ho : Ord wn.length zn) (hz : zn.Pairwise fun x y => wn.getD x.toNat 0 ≤ wn.getD y.toNat 0) :
    zn.map (fun car => (filling wn zn).2.getD car.toNat 0) = takens wn (wn.length + 6) := by
  obtain ⟨hl, S⟩ := fill_stable hwb ho
  have P := fill_placed hwb ho
  generalize (filling wn zn).2 = pn at hl S P
  refine inc_unique ?_ (takens_inc ..) (List.Perm.trans ?_ P.perm)
  · rw [List.pairwise_map, List.pairwise_iff_getElem]
    intro i j h1 h2 hij
    have m1 := (ho.mem zn[i]).mp (List.getElem_mem h1)
    have m2 := (ho.mem zn[j]).mp (List.getElem_mem h2)
    have e1 : ((zn[i].toNat : Nat) : Int) = zn[i] := by omega
    have e2 : ((zn[j].toNat : Nat) : Int) = zn[j] := by omega
    refine S.rises (a := zn[i].toNat) (b := zn[j].toNat) (by omega) (by omega) ?_ (List.pairwise_iff_getElem.mp hz i j h1 h2 hij)
    (try dsimp only)
    rw [e1, e2, ho.nd.idxOf_getElem i h1, ho.nd.idxOf_getElem j h2]
    exact hij
  · have h1 : (zn.map fun car => pn.getD car.toNat 0).Perm ((rangeKs 0 wn.length).map fun car => pn.getD car.toNat 0) := List.Perm.map _ (perm_of_mem ho.nd (by
      unfold rangeKs
      exact nodup_map List.nodup_range fun a _ b _ e => by omega) fun x => by rw [ho.mem, mem_ranges0])
    refine h1.trans (List.Perm.of_eq ?_)
    conv => rhs; rw [wn_map pn, hl]
    unfold rangeKs
    rw [List.map_map]
    refine List.map_congr_left fun i _ => ?_
    show pn.getD ((0 : Int) + (i : Int)).toNat 0 = pn.getD i 0
    rw [show ((0 : Int) + (i : Int)).toNat = i by omega]
theorem far_least {wn zn on : List Int} (hwb : ∀ x ∈ wn, 0 ≤ x ∧ x ≤ 5) (ho : Ord wn.length zn) (hz : zn.Pairwise fun x y => wn.getD x.toNat 0 ≤ wn.getD y.toNat 0) (ho' : Ord wn.length on) {M N : Int} (hM : IsFar wn (filling wn zn).2 M) (hN : IsFar wn (filling wn on).2 N) : M ≤ N := by
  obtain ⟨hl, S⟩ := fill_stable hwb ho
  obtain ⟨hl', S'⟩ := fill_stable hwb ho'
  have P := fill_placed hwb ho
  have P' := fill_placed hwb ho'
  obtain ⟨a, ha, e⟩ := mem_dists.mp hM.mem
  obtain ⟨b, hb, h⟩ := S.far S' (fun a b ha hb e => idx_inj ho ha hb e) (fun a b ha hb h => by_wish ho hz ha hb h) (fun a ha => by
    have h1 : (filling wn on).2.getD a 0 ∈ (filling wn on).2 := by rw [getD_lt (by omega)]; exact List.getElem_mem _
    rw [P'.mem, ← P.mem] at h1
    obtain ⟨b, hb, e⟩ := mem_getD.mp h1
    exact ⟨b, by omega, e.symm⟩) a ha
  have h2 := hN.top _ (mem_dists.mpr ⟨b, hb, rfl⟩)
  (try dsimp only at h)
  omega
end
section
local macro_rules | `(tactic| walk_at "compareOp NotEq ref ref") => `(tactic| refine unhold ?_)
local macro_rules | `(tactic| walk_at "eval ListComp") => `(tactic| refine unhold ?_)
theorem append_first {prog : Program} {w : World} {A : Around} {E : Value → Shared → Prop} {s : Shared} {h₀ : Heap} {L D : Addr} {m : Str → Option Value} {post : List (Addr × Obj)} {vs : List Value} {n : Nat} {x : Value} {Q : Value → Shared → Prop}
    (F : Fr h₀ L s.heap m) (N : News h₀ L s.heap ((D, listOf vs.toArray n) :: post)) (hp : ∀ p ∈ post, p.1 ≠ D) (hl : vs.length ≤ 100)
    (h : ∀ h', Fr h₀ L h' m → News h₀ L h' ((D, listOf (vs ++ [x]).toArray (n + 1)) :: post) → Q .none { s with heap := h' }) :
    wpAny (model prog w) A (call (.builtin "list.append") [.ref D, x]) Q E s := by
  have z := N (D, listOf vs.toArray n) (.head _)
  refine append_at (hsz := by rw [List.size_toArray, sizeLine_eq]; omega) z.1 fun h' hs ho' => h h' (F.change hs z.2.1 z.2.2) (news_set (pre := []) N (fun _ h => nomatch h) hp hs ?_)
  rw [ho', List.push_toArray]
theorem lw : PySem.Challenge.rw_ik0115_01.Holds := hd (by
  k_with_none
  w_top off
  k_go0
  all_goals try k_fold
  rename_i W0 S0 S1 mg1 mb1 G1 Y1 fa1 oo1 pm1 doc1 ho1 hg1 X1 V1 T1 B1 TE1 TW1 hcd1 scr hs0 hlay1 hL1 hr1 hl21 Sa Sv m2 m3 m4 hL2 ra1 w11 r01 hI0 hr2 hcond1 hcond2 hD1 h₁ tk₁ o4 o3 o2 o1 d4 d3 d2 d1 hCells hIn hTop hBel F0 N0 l0
  have hMark := kstMark
  have e4 : ∃ v, o4.data = .cell v := ⟨_, d4⟩
  clear d4
  obtain ⟨v4, d4⟩ := e4
  have e3 : ∃ v, o3.data = .cell v := ⟨_, d3⟩
  clear d3
  obtain ⟨v3, d3⟩ := e3
  have e2 : ∃ v, o2.data = .cell v := ⟨_, d2⟩
  clear d2
  obtain ⟨v2, d2⟩ := e2
  have e1 : ∃ v, o1.data = .cell v := ⟨_, d1⟩
  clear d1
  obtain ⟨v1, d1⟩ := e1
  k_with "call ref" => (refine unhold ?_)
  k_with "binaryOp Add ref ref" => (refine unhold ?_)
  k_with "binaryOp Add" => (refine unhold ?_)
  k_with "pyIter ref" => (refine unhold ?_)
  k_with "eval ListComp" => (refine unhold ?_)
  try k_fold
  k_steps
  refine Hold.intro ?_
  k_dflt (refine LCg.ListComp_U (F₀ := by k_asm) (by with_unfolding_all rfl) (by decide) (by rfl) (by decide) (by rfl) ?_)
  try k_fold
  k_steps
  rename_i Dr drv _ hdi hdl0 hdl lDr _ L3 _ F6 N6 lL3
  refine Hold.intro (comp_map (fun n => n.fmod 6) (by rfl) F6 N6 (by k_memK) (by assumption) (by omega) ?_ ?_)
  · intro n t I oI C oC D ys m₂ g h tk E' hn hC hx F7 N7 off ne hS
    clear F6 N6
    (try dsimp only [List.nil_append, List.cons_append] at N7); (try simp only [List.append_nil] at N7)
    (try dsimp only)
    try k_fold
    k_steps
    refine Hold.intro (LCg.CompEnd.intro (by assumption) (by assumption) _ (fun _ h => h) off hS ⟨rfl, _, rfl⟩)
  · intro g ys hys
    clear F6 N6
    intro D h tk F7 N7 off
    (try dsimp only)
    try k_fold
    k_steps
    rename_i Wl wv _ F6 N6 hwi lW
    refine store_cell (pre := [(Wl, listOf wv.toArray 0)]) (c := _) (o := o4) (post := [(_, o3), (_, o2), (_, o1), (Dr, listOf drv.toArray 0), (220, tabObj #[])]) F6 (kst_newsOf N6 (by kst_inAny)) ?_ ?_ (by rfl) d4 ?_
    · intro p hp
      rw [List.mem_singleton.mp hp]
      exact Nat.ne_of_gt lW.2.2.2.1
    · intro p hp
      simp only [List.mem_cons, List.not_mem_nil, or_false] at hp
      rcases hp with rfl | rfl | rfl | rfl | rfl
      · exact Nat.ne_of_lt (by omega)
      · exact Nat.ne_of_lt (by omega)
      · exact Nat.ne_of_lt (by omega)
      · exact Nat.ne_of_gt lDr.1
      · exact Nat.ne_of_lt (by omega)
    clear F6 N6
    intro h5 oW F5 N5 dW
    (try dsimp only [List.nil_append, List.cons_append] at N5); (try simp only [List.append_nil] at N5)
    have hb1 : ∀ x ∈ ([2, 1, 1] : List Int) ++ List.map (fun n => n.fmod 6) (List.take 6 scr), 0 ≤ x ∧ x ≤ 5 := by
      intro x hx
      rcases List.mem_append.mp hx with hx | hx
      · simp only [List.mem_cons, List.not_mem_nil, or_false] at hx
        rcases hx with rfl | rfl | rfl <;> decide
      · obtain ⟨y, _, rfl⟩ := List.mem_map.mp hx
        have h1 := Int.fmod_nonneg_of_pos y (show (0 : Int) < 6 by decide)
        have h2 := Int.fmod_lt_of_pos y (show (0 : Int) < 6 by decide)
        (try dsimp only)
        omega
    have hlw : (([2, 1, 1] : List Int) ++ List.map (fun n => n.fmod 6) (List.take 6 scr)).length = 3 + min 6 scr.length := by
      rw [List.length_append, List.length_map, hdl0]
      rfl
    generalize hwn : ([2, 1, 1] : List Int) ++ List.map (fun n => n.fmod 6) (List.take 6 scr) = wn at hwi hb1 hlw
    try k_fold
    k_steps
    refine Hold.intro ?_
    k_dflt (refine LCg.ListComp_U (F₀ := by k_asm) (by with_unfolding_all rfl) (by decide) (by rfl) (by decide) (by rfl) ?_)
    try k_fold
    k_steps
    rename_i Z3 _ F6 N6 lZ3
    refine Hold.intro (comp_map (fun n => (n.fdiv 6).fmod 7) (by rfl) F6 N6 (by k_memK) (by assumption) (by omega) ?_ ?_)
    · intro n t I oI C oC D ys m₂ g h tk E' hn hC hx F7 N7 off ne hS
      clear F6 N6
      (try dsimp only [List.nil_append, List.cons_append] at N7); (try simp only [List.append_nil] at N7)
      (try dsimp only)
      try k_fold
      k_steps
      refine Hold.intro (LCg.CompEnd.intro (by assumption) (by assumption) _ (fun _ h => h) off hS ⟨rfl, _, rfl⟩)
    · intro g2 ys2 hys2
      clear F6 N6
      intro D2 h tk2 F7 N7 off2
      (try dsimp only)
      try k_fold
      k_steps
      rename_i Kl kv _ F6 N6 hki lK
      refine store_cell (pre := [(Kl, listOf kv.toArray 0), (Wl, listOf wv.toArray 0), (_, oW)]) (c := _) (o := o3) (post := [(_, o2), (_, o1), (Dr, listOf drv.toArray 0), (220, tabObj #[])]) F6 (kst_newsOf N6 (by kst_inAny)) ?_ ?_ (by rfl) d3 ?_
      · intro p hp
        simp only [List.mem_cons, List.not_mem_nil, or_false] at hp
        rcases hp with rfl | rfl | rfl
        · exact Nat.ne_of_gt (by omega)
        · exact Nat.ne_of_gt (by omega)
        · exact Nat.ne_of_gt (by omega)
      · intro p hp
        simp only [List.mem_cons, List.not_mem_nil, or_false] at hp
        rcases hp with rfl | rfl | rfl | rfl
        · exact Nat.ne_of_lt (by omega)
        · exact Nat.ne_of_lt (by omega)
        · exact Nat.ne_of_gt (by omega)
        · exact Nat.ne_of_lt (by omega)
      clear F6 N6
      intro h6 oK F5 N5 dK
      (try dsimp only [List.nil_append, List.cons_append] at N5); (try simp only [List.append_nil] at N5)
      have hlk : (([0, 0, 0] : List Int) ++ List.map (fun n => (n.fdiv 6).fmod 7) (List.take 6 scr)).length = wn.length := by
        rw [hlw, List.length_append, List.length_map, hdl0]
        rfl
      generalize ([0, 0, 0] : List Int) ++ List.map (fun n => (n.fdiv 6).fmod 7) (List.take 6 scr) = rn at hki hlk
      have hw3 : 3 ≤ wn.length := by rw [hlw]; exact Nat.le_add_right _ _
      have hw9 : wn.length ≤ 9 := by rw [hlw]; exact Nat.add_le_add_left (Nat.min_le_left _ _) 3
      clear hlw hdl hdl0
      try k_fold
      k_steps
      rename_i Cl cv cc _ _ hci lC _ _ _ FN1 fc1 oc1 vs1 t1 ct1 _ _ F6 N6 df1 dv1 lc1 lf1
      have hcr : (([] : List Int).length : Int) = 0 := rfl
      have e0 : ((wn.length : Int) - 0).toNat = wn.length := by omega
      rw [e0] at hci
      show wpAny _ _ (call (Value.builtin "sorted") [Value.ref Cl] [(Str.ofString "key", Value.ref FN1)]) _ _ _
      refine ksk_letter (b := false) (fun x => rn.getD x.toNat 0) F6 N6 (kso_isList N6 (by k_memK) rfl) hci (by rw [rangeKs_length]; omega) (ksk_s1 _ _) (fun x => ksk_l1 _ _) (fun x => ksk_t1 _ _) ?_ ?_
      · intro n t h tk own hn F7 N7
        clear F6 N6
        (try dsimp only [List.nil_append, List.cons_append] at N7); (try simp only [List.append_nil] at N7)
        (try dsimp only)
        have hnb := mem_rangeKs hn
        refine wpAny_call ?_
        k_dflt kla_enter
        try k_fold
        k_steps
      · intro Bl bv bn bc h tk F7 N7 lB hbi hbl hbp _ hb9
        clear hb9
        clear F6 N6
        (try dsimp only [List.nil_append, List.cons_append] at N7); (try simp only [List.append_nil] at N7)
        k_lt lB
        (try dsimp only)
        try k_fold
        k_steps
        rename_i _ FN2 fc2 oc2 vs2 t2 ct2 _ _ F6 N6 df2 dv2 lc2 lf2
        show wpAny _ _ (call (Value.builtin "sorted") [Value.ref Cl] [(Str.ofString "key", Value.ref FN2)]) _ _ _
        refine ksk_letter (b := false) (fun x => wn.getD x.toNat 0) F6 N6 (kso_isList N6 (by k_memK) rfl) hci (by rw [rangeKs_length]; omega) (ksk_s1 _ _) (fun x => ksk_l1 _ _) (fun x => ksk_t1 _ _) ?_ ?_
        · intro n t h tk own hn F7 N7
          clear F6 N6
          (try dsimp only [List.nil_append, List.cons_append] at N7); (try simp only [List.append_nil] at N7)
          (try dsimp only)
          have hnb := mem_rangeKs hn
          refine wpAny_call ?_
          k_dflt kla_enter
          try k_fold
          k_steps
        · intro Zl zv zn zc h tk F7 N7 lZ hzi hzl hzp hzo hz99
          clear hz99
          clear F6 N6
          (try dsimp only [List.nil_append, List.cons_append] at N7); (try simp only [List.append_nil] at N7)
          k_lt lZ
          (try dsimp only)
          try k_fold
          k_steps
          (rename Fr _ _ _ _ => F6); (rename News _ _ _ _ => N6)
          refine Hold.intro ?_
          have hT : ∃ ps, News _ _ _ [(Wl, listOf wv.toArray 0), (Zl, listOf zv.toArray zc), (Bl, listOf bv.toArray bc), (Cl, listOf cv.toArray cc), (_, oW), (_, o2), (_, o1), (220, tabObj ps)] := ⟨_, kst_newsOf N6 (by kst_inAny)⟩
          obtain ⟨ps, N8⟩ := hT
          clear N6
          refine' Ctr.use (taken_c _ hwi (by omega) hb1) ?k1 ?k2 ?k3 ?k4 ?k5 ?k6 ?k7 ?k8 ?_
          (case k1 => k_asm); (case k2 => k_asm); (case k3 => k_asm); (case k5 => k_asm); (case k6 => first | exact rfl | assumption); (case k7 => ktr_room); (case k8 => ktr_units)
          (case k4 => exact N8)
          rintro r9 n9 h9 t9 F5 N5 ⟨Tk, tv, tc, rfl, hti, rfl, lT1, lT2⟩
          have q1 := lT2 _ (.tail _ (.tail _ (.tail _ (.tail _ (.tail _ (.head _))))))
          have q3 := lT2 _ (.head _)
          have q4 := lT2 _ (.tail _ (.head _))
          have q5 := lT2 _ (.tail _ (.tail _ (.head _)))
          (try dsimp only at q1 q3 q4 q5)
          have q2 := lT2 _ (.tail _ (.tail _ (.tail _ (.head _))))
          clear df1 dv1 df2 dv2 off off2
          refine store_cell (pre := [(Tk, listOf tv.toArray tc), (Wl, listOf wv.toArray 0), (Zl, listOf zv.toArray zc), (Bl, listOf bv.toArray bc), (Cl, listOf cv.toArray cc), (_, oW), (_, o2)]) (c := _) (o := o1) (post := [(220, tabObj ps)]) F5 (kst_newsOf N5 (by kst_inAny)) ?_ ?_ (by rfl) d1 ?_
          · intro p hp
            simp only [List.mem_cons, List.not_mem_nil, or_false] at hp
            rcases hp with rfl | rfl | rfl | rfl | rfl | rfl | rfl <;> exact Nat.ne_of_gt (by omega)
          · intro p hp
            rw [List.mem_singleton.mp hp]
            exact Nat.ne_of_lt (by omega)
          intro h6 oT F5 N5 dT
          (try dsimp only [List.nil_append, List.cons_append] at N5); (try simp only [List.append_nil] at N5)
          try k_fold
          k_steps
          (rename Fr _ _ _ _ => F6); (rename News _ _ _ _ => N6); rename IsRange _ _ _ _ _ _ _ _ => rgX
          refine Hold.intro (comp_range_if (n := wn.length + 6) (freeP wn) (by rfl) F6 N6 rgX (by first | exact small_one (by omega) (by omega) (by omega) (by omega) | decide) (by first | exact rangeSize_nat _ _ | rfl) (by omega) ?_ ?_)
          · intro i t I oI C oC D ys m₂ g h tk E' hi hC hx F7 N7 off ne
            clear F6 N6
            (try dsimp only [List.nil_append, List.cons_append] at N7); (try simp only [List.append_nil] at N7)
            (try dsimp only)
            try k_fold
            k_steps
            · rename List.any _ _ = true => han
              refine Hold.intro (LCg.CompEnd.intro (by assumption) (by assumption) _ (fun _ h => h) off trivial ⟨rfl, ?_⟩)
              exact decide_eq_false (fun h => h ((any_mem _ _).mp han))
            · rename List.any _ _ = false => han
              refine Hold.intro (LCg.CompEnd.intro (by assumption) (by assumption) _ (fun _ h => h) off trivial ⟨rfl, ?_, _, rfl⟩)
              exact decide_eq_true (fun h => by rw [(any_mem _ _).mpr h] at han; exact absurd han (by decide))
          · intro g ys hys
            clear F6 N6
            intro FrL h tk F7 N7 off
            (try dsimp only)
            k_with "exec For Name List cons nil" => (refine unhold ?_)
            try k_fold
            k_steps
            (rename Fr _ _ _ _ => F6); (rename News _ _ _ _ => N6)
            refine Hold.intro (For_invVF F6 (by rfl) (by rfl) ?_)
            try k_fold
            k_steps
            rename_i FaL _ lFa _ Rl rv _ hri hrl lR OL _ F6 N6 lO
            rw [show LCg.lst ys = listOf ys.toArray ys.length from rfl] at N6
            have hLr : ([rangeKs 0 wn.length, (rangeKs 0 wn.length).reverse, bn, zn] : List (List Int)).length = 4 := rfl
            obtain ⟨ords, hords⟩ : ∃ o : List (List Int), o = [rangeKs 0 wn.length, (rangeKs 0 wn.length).reverse, bn, zn] := ⟨_, rfl⟩
            have hoa : ∀ (i : Nat) v, ([Value.ref Cl, Value.ref Rl, Value.ref Bl, Value.ref Zl] : List Value)[i]? = some v → ∃ Oa ov oc, v = .ref Oa ∧ (Oa, listOf ov.toArray oc) ∈ [(Rl, listOf rv.toArray 0), (Zl, listOf zv.toArray zc), (Bl, listOf bv.toArray bc), (Cl, listOf cv.toArray cc)] ∧ IntsAre ov (ords.getD i []) ∧ Ord wn.length (ords.getD i []) ∧ @LT.lt Nat _ (S1.heap.objs.size + 1 + 1 + 1 + 1) Oa := by
              intro i v hv
              rw [hords]
              match i, hv with
              | 0, hv => exact ⟨Cl, cv, cc, (Option.some.inj hv).symm, by k_memK, hci, ord_of (.refl _), by omega⟩
              | 1, hv => exact ⟨Rl, rv, 0, (Option.some.inj hv).symm, by k_memK, hri, ord_of (List.reverse_perm _), by omega⟩
              | 2, hv => exact ⟨Bl, bv, bc, (Option.some.inj hv).symm, by k_memK, hbi, ord_of hbp, by omega⟩
              | 3, hv => exact ⟨Zl, zv, zc, (Option.some.inj hv).symm, by k_memK, hzi, ord_of hzp, by omega⟩
              | i + 4, hv => simp at hv
            have hz1 : @LT.lt Nat _ (S1.heap.objs.size + 1 + 1 + 1 + 1) Wl := by omega
            have hz2 : @LT.lt Nat _ Wl Cl := by omega
            have hz3 : @LT.lt Nat _ Cl Bl := by omega
            have hz4 : @LT.lt Nat _ Bl Zl := by omega
            have hz5 : @LT.lt Nat _ Zl Tk := by omega
            have hz6 : @LT.lt Nat _ Tk FaL := by omega
            have hz7 : @LT.lt Nat _ FrL FaL := by omega
            have hz8 : @LT.lt Nat _ FaL Rl := by omega
            have hz9 : @LT.lt Nat _ Rl OL := by omega
            have hz0 : @Ne Nat FrL (S1.heap.objs.size + 1 + 1) := by
              have := off
              simp only [LCg.Off1] at this
              omega
            have hT2 : @LT.lt Nat _ (S1.heap.objs.size + 1 + 1) (S1.heap.objs.size + 1 + 1 + 1 + 1) := Nat.lt_succ_of_lt (Nat.lt_succ_self _)
            have hW2 : @LT.lt Nat _ (S1.heap.objs.size + 1 + 1) Wl := Nat.lt_trans hT2 hz1
            have hC2 : @LT.lt Nat _ (S1.heap.objs.size + 1 + 1) Cl := Nat.lt_trans hW2 hz2
            have hB2 : @LT.lt Nat _ (S1.heap.objs.size + 1 + 1) Bl := Nat.lt_trans hC2 hz3
            have hZ2 : @LT.lt Nat _ (S1.heap.objs.size + 1 + 1) Zl := Nat.lt_trans hB2 hz4
            have hK2 : @LT.lt Nat _ (S1.heap.objs.size + 1 + 1) Tk := Nat.lt_trans hZ2 hz5
            have hF2 : @LT.lt Nat _ (S1.heap.objs.size + 1 + 1) FaL := Nat.lt_trans hK2 hz6
            have hR2 : @LT.lt Nat _ (S1.heap.objs.size + 1 + 1) Rl := Nat.lt_trans hF2 hz8
            have hO2 : @LT.lt Nat _ (S1.heap.objs.size + 1 + 1) OL := Nat.lt_trans hR2 hz9
            have hFZ : @LT.lt Nat _ Zl FaL := Nat.lt_trans hz5 hz6
            have hFB : @LT.lt Nat _ Bl FaL := Nat.lt_trans hz4 hFZ
            have hFC : @LT.lt Nat _ Cl FaL := Nat.lt_trans hz3 hFB
            have hFW : @LT.lt Nat _ Wl FaL := Nat.lt_trans hz2 hFC
            have hF4 : @LT.lt Nat _ (S1.heap.objs.size + 1 + 1 + 1 + 1) FaL := Nat.lt_trans hz1 hFW
            have hF1 : @LT.lt Nat _ (S1.heap.objs.size + 1) FaL := Nat.lt_trans (Nat.lt_succ_self _) hF2
            have hF0 : @LT.lt Nat _ 220 FaL := Nat.lt_trans l0 (Nat.lt_trans (Nat.lt_succ_self _) hF1)
            have hFO : @LT.lt Nat _ FaL OL := Nat.lt_trans hz8 hz9
            clear lFa lR lO lZ lB lC lDr lL3 lW lZ3 lK q1 q2 q3 q4 q5 lT1 lT2 off hri hbi
            (try clear lc1 lf1); (try clear lc2 lf2); (try clear hcr e0); (try clear hrl); (try clear hbl hzl); (try clear hcond1 hcond2)
            (repeat (rename @LT.lt Nat _ _ _ ∧ _ => hx9; clear hx9))
            refine Hold.intro ?_
            refine' kd_vals (σ := Obj × List Value × List Int × Nat × List Int) (fun c => [(S1.heap.objs.size + 1 + 1, c.1), (FaL, listOf c.2.1.toArray c.2.2.2.1)])
              [(OL, listOf #[Value.ref Cl, Value.ref Rl, Value.ref Bl, Value.ref Zl] 0), (Rl, listOf rv.toArray 0), (FrL, listOf ys.toArray ys.length), (Tk, listOf tv.toArray tc), (Wl, listOf wv.toArray 0), (Zl, listOf zv.toArray zc), (Bl, listOf bv.toArray bc), (Cl, listOf cv.toArray cc), (S1.heap.objs.size + 1 + 1 + 1 + 1, oW), (S1.heap.objs.size + 1, oT), (220, tabObj ps)]
              (fun c => []) (fun l c => (∃ v, c.1.data = .cell v) ∧ IntsAre c.2.1 c.2.2.1 ∧ (0 < c.2.2.1.length → ∃ D pv k, c.1.data = .cell (some (.ref D)) ∧ (D, listOf pv.toArray k) ∈ l ∧ IntsAre pv c.2.2.2.2))
              [] (fun i c => c.2.2.1.length = i ∧ (∀ j, j < i → IsFar wn (filling wn (ords.getD j [])).2 (c.2.2.1.getD j 0)) ∧ (0 < i → c.2.2.2.2 = (filling wn (ords.getD (i - 1) [])).2))
              [S1.heap.objs.size + 1 + 1, FaL, OL, Rl, FrL, Tk, Wl, Zl, Bl, Cl, S1.heap.objs.size + 1 + 1 + 1 + 1, S1.heap.objs.size + 1, 220] (o2, [], [], 0, []) (by rfl) (List.mem_cons_self) F6 N6 ?_ (fun c => rfl) ⟨⟨_, d2⟩, .nil, fun h => absurd h (Nat.not_lt_zero _)⟩ (fun _ h => nomatch h) ⟨rfl, fun j h => absurd h (Nat.not_lt_zero j), fun h => absurd h (Nat.not_lt_zero _)⟩ ?_ ?_
            · kst_inAny
            · rintro ⟨oP, fv, fn, fc, pn0⟩ tl i v u h tk own hv hsep hoff ⟨⟨vP, dP⟩, hfi, hfp⟩ ⟨hP1, hP2, hP3⟩ F2 N2
              clear F6 N6 hfp hP3
              obtain ⟨Oa, ov, oc, rfl, hOm, hoi, hOrd, hOlt⟩ := hoa i v hv
              have hi4 : i < 4 := by
                have := (List.getElem?_eq_some_iff.mp hv).1
                simpa using this
              generalize hon : ords.getD i [] = on at hoi hOrd
              (try dsimp only at hfi hP1 F2 N2); (try dsimp only [kstB] at F2)
              (try dsimp only [List.nil_append, List.cons_append] at N2); (try simp only [List.append_nil] at N2)
              try k_fold
              have N3 := kst_newsOf (l' := (Wl, listOf wv.toArray 0) :: (Oa, listOf ov.toArray oc) :: (S1.heap.objs.size + 1 + 1, oP) :: (FaL, listOf fv.toArray fc) :: (OL, listOf #[Value.ref Cl, Value.ref Rl, Value.ref Bl, Value.ref Zl] 0) :: (Rl, listOf rv.toArray 0) :: (FrL, listOf ys.toArray ys.length) :: (Tk, listOf tv.toArray tc) :: (Zl, listOf zv.toArray zc) :: (Bl, listOf bv.toArray bc) :: (Cl, listOf cv.toArray cc) :: (S1.heap.objs.size + 1 + 1 + 1 + 1, oW) :: (S1.heap.objs.size + 1, oT) :: (220, tabObj ps) :: (tl ++ own)) N2 (sub_cons2 (by k_memK) ((by kst_inAny : ∀ p ∈ [(Rl, listOf rv.toArray 0), (Zl, listOf zv.toArray zc), (Bl, listOf bv.toArray bc), (Cl, listOf cv.toArray cc)], p ∈ _) _ hOm) (by kst_inAny))
              try k_fold
              k_steps
              refine Hold.intro ?_
              refine' Ctr.use (filled_c _ hwi hoi (by omega) (by rw [hOrd.len]; omega) hb1 (fun x hx => (hOrd.mem x).mp hx)) ?k1 ?k2 ?k3 ?k4 ?k5 ?k6 ?k7 ?k8 ?_
              (case k1 => k_asm); (case k2 => k_asm); (case k3 => k_asm); (case k5 => k_asm); (case k6 => first | exact rfl | assumption); (case k7 => ktr_room); (case k8 => ktr_units)
              (case k4 => exact N3)
              rintro r9 n9 h9 t9 F5 N5 ⟨Pl, pv, pk, rfl, hpi, rfl, lP1, lP2, lP3⟩
              have hz11 : @LT.lt Nat _ Wl Pl := lP1
              clear N3
              have hPd := fill_placed hb1 hOrd
              have hsw := sweep_fill hb1 hOrd
              generalize hpn : (filling wn on).2 = pn at hpi hPd hsw
              refine store_cell (pre := []) (c := S1.heap.objs.size + 1 + 1) (o := oP) (post := (Pl, listOf pv.toArray pk) :: (Wl, listOf wv.toArray 0) :: (Oa, listOf ov.toArray oc) :: (FaL, listOf fv.toArray fc) :: (OL, listOf #[Value.ref Cl, Value.ref Rl, Value.ref Bl, Value.ref Zl] 0) :: (Rl, listOf rv.toArray 0) :: (FrL, listOf ys.toArray ys.length) :: (Tk, listOf tv.toArray tc) :: (Zl, listOf zv.toArray zc) :: (Bl, listOf bv.toArray bc) :: (Cl, listOf cv.toArray cc) :: (S1.heap.objs.size + 1 + 1 + 1 + 1, oW) :: (S1.heap.objs.size + 1, oT) :: (220, tabObj ps) :: (tl ++ own)) F5 (kst_newsOf N5 (by
                kst_inAny)) (fun _ h => nomatch h) ?_ (by rfl) dP ?_
              · intro p hp
                simp only [List.mem_cons] at hp
                rcases hp with rfl | rfl | rfl | rfl | rfl | rfl | rfl | rfl | rfl | rfl | rfl | rfl | rfl | rfl | hp
                · exact Nat.ne_of_gt (by first | assumption | omega)
                · exact Nat.ne_of_gt (by first | assumption | omega)
                · exact Nat.ne_of_gt (by first | assumption | omega)
                · exact Nat.ne_of_gt (by first | assumption | omega)
                · exact Nat.ne_of_gt (by first | assumption | omega)
                · exact Nat.ne_of_gt (by first | assumption | omega)
                · exact hz0
                · exact Nat.ne_of_gt (by first | assumption | omega)
                · exact Nat.ne_of_gt (by first | assumption | omega)
                · exact Nat.ne_of_gt (by first | assumption | omega)
                · exact Nat.ne_of_gt (by first | assumption | omega)
                · exact Nat.ne_of_gt (by first | assumption | omega)
                · exact Nat.ne_of_lt (by first | assumption | omega)
                · exact Nat.ne_of_lt (by first | assumption | omega)
                · exact hoff p hp _ (by first | k_memK | simp)
              intro h5 oP2 F6 N6 dP2
              clear F5 N5
              have N7 := kst_newsOf (l' := (Pl, listOf pv.toArray pk) :: (Wl, listOf wv.toArray 0) :: (Oa, listOf ov.toArray oc) :: (S1.heap.objs.size + 1 + 1, oP2) :: (FaL, listOf fv.toArray fc) :: (OL, listOf #[Value.ref Cl, Value.ref Rl, Value.ref Bl, Value.ref Zl] 0) :: (Rl, listOf rv.toArray 0) :: (FrL, listOf ys.toArray ys.length) :: (Tk, listOf tv.toArray tc) :: (Zl, listOf zv.toArray zc) :: (Bl, listOf bv.toArray bc) :: (Cl, listOf cv.toArray cc) :: (S1.heap.objs.size + 1 + 1 + 1 + 1, oW) :: (S1.heap.objs.size + 1, oT) :: (220, tabObj ps) :: (tl ++ own)) N6 (by
                kst_inAny)
              clear N6
              (repeat (rename @LT.lt Nat _ _ _ ∧ _ => hx9; clear hx9))
              try k_fold
              k_steps
              (rename Fr _ _ _ _ => F6); (rename News _ _ _ _ => N6)
              have N9 := kst_newsOf (l' := (Wl, listOf wv.toArray 0) :: (Oa, listOf ov.toArray oc) :: (Pl, listOf pv.toArray pk) :: (S1.heap.objs.size + 1 + 1, oP2) :: (FaL, listOf fv.toArray fc) :: (OL, listOf #[Value.ref Cl, Value.ref Rl, Value.ref Bl, Value.ref Zl] 0) :: (Rl, listOf rv.toArray 0) :: (FrL, listOf ys.toArray ys.length) :: (Tk, listOf tv.toArray tc) :: (Zl, listOf zv.toArray zc) :: (Bl, listOf bv.toArray bc) :: (Cl, listOf cv.toArray cc) :: (S1.heap.objs.size + 1 + 1 + 1 + 1, oW) :: (S1.heap.objs.size + 1, oT) :: (220, tabObj ps) :: (tl ++ own)) N6 (by
                kst_inAny)
              refine Hold.intro ?_
              refine' Ctr.use (swept_c _ hwi hoi (by omega) hOrd.len (fun x hx => (hOrd.mem x).mp hx) (fun x h1 h2 => (hOrd.mem x).mpr ⟨h1, h2⟩)) ?k1 ?k2 ?k3 ?k4 ?k5 ?k6 ?k7 ?k8 ?_
              (case k1 => k_asm); (case k2 => k_asm); (case k3 => k_asm); (case k5 => k_asm); (case k6 => first | exact rfl | assumption); (case k7 => ktr_room); (case k8 => ktr_units)
              (case k4 => exact N9)
              rintro r9 n9 h9 t9 F5 N5 ⟨T1l, D1l, Q1l, sus, svs, sk, rfl, hsu, hsv, rfl, _, _, _, _, _⟩
              clear F6 N6 N9
              (repeat (rename @LT.lt Nat _ _ _ ∧ _ => hx9; clear hx9))
              rw [hsw] at hsu hsv
              try k_fold
              k_steps
              (rename News _ _ _ _ => N6)
              refine Hold.intro (dat_ne (d := .tuple [.list (pn.map Dat.int), .list (([] : List Int).map Dat.int)]) N6 (.tuple (by k_memK) (.cons (.list (by k_memK) (ints_dat hsv)) (.cons (.list (by k_memK) (ints_dat hsu)) .nil))) (fun _ h => h) (.tuple (by k_memK) (.cons (.list (by k_memK) (ints_dat hpi)) (.cons (.list (by k_memK) .nil) .nil))) (fun _ h => h) (ok_pair _ _) (by ke_room) ?_)
              have N8 := kst_newsOf (l' := (Pl, listOf pv.toArray pk) :: (Wl, listOf wv.toArray 0) :: (Oa, listOf ov.toArray oc) :: (S1.heap.objs.size + 1 + 1, oP2) :: (FaL, listOf fv.toArray fc) :: (OL, listOf #[Value.ref Cl, Value.ref Rl, Value.ref Bl, Value.ref Zl] 0) :: (Rl, listOf rv.toArray 0) :: (FrL, listOf ys.toArray ys.length) :: (Tk, listOf tv.toArray tc) :: (Zl, listOf zv.toArray zc) :: (Bl, listOf bv.toArray bc) :: (Cl, listOf cv.toArray cc) :: (S1.heap.objs.size + 1 + 1 + 1 + 1, oW) :: (S1.heap.objs.size + 1, oT) :: (220, tabObj ps) :: (tl ++ own)) N6 (by kst_inAny)
              clear N6
              (repeat (rename @LT.lt Nat _ _ _ ∧ _ => hx9; clear hx9))
              have hpnl : pn.length = wn.length := hPd.len
              try k_fold
              k_steps
              rename IntsAre _ (rangeKs 0 _) => hxi
              rename IntsAre _ _ => hsi
              rename List.Perm _ _ => hsp
              rename List.Pairwise _ _ => hso2
              (try (rename (0 < List.length _ → _) => hb8; clear hb8))
              have hsn := hPd.sorted hsp hso2
              subst hsn
              rw [show ((wn.length : Int) + 6 - 0).toNat = wn.length + 6 by omega] at hxi
              obtain ⟨hd1, hd2, hd3⟩ := hPd.sld
              (rename Fr _ _ _ _ => F6); (rename News _ _ _ _ => N6)
              refine Hold.intro ?_
              refine' CtrL.use (sld_c (N0 := wn.length + 6) (rest := (Pl, listOf pv.toArray pk) :: (Wl, listOf wv.toArray 0) :: (Oa, listOf ov.toArray oc) :: (S1.heap.objs.size + 1 + 1, oP2) :: (FaL, listOf fv.toArray fc) :: (OL, listOf #[Value.ref Cl, Value.ref Rl, Value.ref Bl, Value.ref Zl] 0) :: (Rl, listOf rv.toArray 0) :: (FrL, listOf ys.toArray ys.length) :: (Tk, listOf tv.toArray tc) :: (Zl, listOf zv.toArray zc) :: (Bl, listOf bv.toArray bc) :: (Cl, listOf cv.toArray cc) :: (S1.heap.objs.size + 1 + 1 + 1 + 1, oW) :: (S1.heap.objs.size + 1, oT) :: (220, tabObj ps) :: (tl ++ own)) _ hxi hsi rfl (by omega) (by omega) (by omega) hd2 hd3) ?k1 ?k2 ?k4 ?k5 ?k6 ?k7 ?k8 ?_
              (case k1 => k_asm); (case k2 => k_asm); (case k5 => k_asm); (case k6 => first | exact rfl | assumption); (case k7 => ktr_room); (case k8 => ktr_units)
              (case k4 => exact kst_newsOf N6 (by kst_inAny))
              rintro r9 n9 h9 t9 F5 N5 ⟨T1l, D1l, Q1l, sus, sk, rfl, rfl, hsu⟩
              clear F6 N6
              (repeat (rename @LT.lt Nat _ _ _ ∧ _ => hx9; clear hx9))
              rw [free_eq] at hsu
              try k_fold
              k_steps
              (rename News _ _ _ _ => N6)
              refine Hold.intro (dat_ne (d := .tuple [.list ((((List.range (wn.length + 6)).filter (freeP wn)).map fun (i : Nat) => (i : Int)).map Dat.int), .list (([] : List Int).map Dat.int)]) N6 (.tuple (by k_memK) (.cons (.list (by k_memK) (ints_dat hsu)) (.cons (.list (by k_memK) .nil) .nil))) (fun _ h => h) (.tuple (by k_memK) (.cons (.list (by k_memK) (ints_dat hys)) (.cons (.list (by k_memK) .nil) .nil))) (fun _ h => h) (ok_pair _ _) (by ke_room) ?_)
              have N8 := kst_newsOf (l' := (Pl, listOf pv.toArray pk) :: (Wl, listOf wv.toArray 0) :: (Oa, listOf ov.toArray oc) :: (S1.heap.objs.size + 1 + 1, oP2) :: (FaL, listOf fv.toArray fc) :: (OL, listOf #[Value.ref Cl, Value.ref Rl, Value.ref Bl, Value.ref Zl] 0) :: (Rl, listOf rv.toArray 0) :: (FrL, listOf ys.toArray ys.length) :: (Tk, listOf tv.toArray tc) :: (Zl, listOf zv.toArray zc) :: (Bl, listOf bv.toArray bc) :: (Cl, listOf cv.toArray cc) :: (S1.heap.objs.size + 1 + 1 + 1 + 1, oW) :: (S1.heap.objs.size + 1, oT) :: (220, tabObj ps) :: (tl ++ own)) N6 (by kst_inAny)
              clear N6
              (repeat (rename @LT.lt Nat _ _ _ ∧ _ => hx9; clear hx9))
              have htl : (takens wn (wn.length + 6)).length = wn.length := hd1
              try k_fold
              k_steps
              rename_i Xl xc _ lX Yl yc _ F6 N6 lY
              refine Hold.intro ?_
              refine' Ctr.use (unord_c (rest := (Pl, listOf pv.toArray pk) :: (Wl, listOf wv.toArray 0) :: (Oa, listOf ov.toArray oc) :: (S1.heap.objs.size + 1 + 1, oP2) :: (FaL, listOf fv.toArray fc) :: (OL, listOf #[Value.ref Cl, Value.ref Rl, Value.ref Bl, Value.ref Zl] 0) :: (Rl, listOf rv.toArray 0) :: (FrL, listOf ys.toArray ys.length) :: (Tk, listOf tv.toArray tc) :: (Zl, listOf zv.toArray zc) :: (Bl, listOf bv.toArray bc) :: (Cl, listOf cv.toArray cc) :: (S1.heap.objs.size + 1 + 1 + 1 + 1, oW) :: (S1.heap.objs.size + 1, oT) :: (220, tabObj ps) :: (tl ++ own)) _ hpi hti (by omega) hPd.perm (Nat.ne_of_lt lY.1) (fun p hp => Nat.ne_of_lt (kst_ltOf (show AllLt Xl ((Pl, listOf pv.toArray pk) :: (Wl, listOf wv.toArray 0) :: (Oa, listOf ov.toArray oc) :: (S1.heap.objs.size + 1 + 1, oP2) :: (FaL, listOf fv.toArray fc) :: (OL, listOf #[Value.ref Cl, Value.ref Rl, Value.ref Bl, Value.ref Zl] 0) :: (Rl, listOf rv.toArray 0) :: (FrL, listOf ys.toArray ys.length) :: (Tk, listOf tv.toArray tc) :: (Zl, listOf zv.toArray zc) :: (Bl, listOf bv.toArray bc) :: (Cl, listOf cv.toArray cc) :: (S1.heap.objs.size + 1 + 1 + 1 + 1, oW) :: (S1.heap.objs.size + 1, oT) :: (220, tabObj ps) :: (tl ++ own)) from lX) p hp)) (fun p hp => Nat.ne_of_lt (kst_ltOf (show AllLt Yl ((Pl, listOf pv.toArray pk) :: (Wl, listOf wv.toArray 0) :: (Oa, listOf ov.toArray oc) :: (S1.heap.objs.size + 1 + 1, oP2) :: (FaL, listOf fv.toArray fc) :: (OL, listOf #[Value.ref Cl, Value.ref Rl, Value.ref Bl, Value.ref Zl] 0) :: (Rl, listOf rv.toArray 0) :: (FrL, listOf ys.toArray ys.length) :: (Tk, listOf tv.toArray tc) :: (Zl, listOf zv.toArray zc) :: (Bl, listOf bv.toArray bc) :: (Cl, listOf cv.toArray cc) :: (S1.heap.objs.size + 1 + 1 + 1 + 1, oW) :: (S1.heap.objs.size + 1, oT) :: (220, tabObj ps) :: (tl ++ own)) from lY.2) p hp))) ?k1 ?k2 ?k3 ?k4 ?k5 ?k6 ?k7 ?k8 ?_
              (case k1 => k_asm); (case k2 => k_asm); (case k3 => k_asm); (case k5 => k_asm); (case k6 => first | exact rfl | assumption); (case k7 => ktr_room); (case k8 => ktr_units)
              (case k4 => exact kst_newsOf N6 (by kst_inAny))
              rintro r9 n9 h9 t9 F5 N5 ⟨T1l, D1l, sk, rfl, rfl, _, _, _⟩
              clear F6 N6
              (repeat (rename @LT.lt Nat _ _ _ ∧ _ => hx9; clear hx9))
              try k_fold
              k_steps
              (rename News _ _ _ _ => N6)
              refine Hold.intro (dat_ne (d := .tuple [.list (([] : List Int).map Dat.int), .list (([] : List Int).map Dat.int)]) N6 (.tuple (by k_memK) (.cons (.list (by k_memK) .nil) (.cons (.list (by k_memK) .nil) .nil))) (fun _ h => h) (.tuple (by k_memK) (.cons (.list (by k_memK) .nil) (.cons (.list (by k_memK) .nil) .nil))) (fun _ h => h) (ok_pair _ _) (by ke_room) ?_)
              have N8 := kst_newsOf (l' := (Pl, listOf pv.toArray pk) :: (Wl, listOf wv.toArray 0) :: (Oa, listOf ov.toArray oc) :: (S1.heap.objs.size + 1 + 1, oP2) :: (FaL, listOf fv.toArray fc) :: (OL, listOf #[Value.ref Cl, Value.ref Rl, Value.ref Bl, Value.ref Zl] 0) :: (Rl, listOf rv.toArray 0) :: (FrL, listOf ys.toArray ys.length) :: (Tk, listOf tv.toArray tc) :: (Zl, listOf zv.toArray zc) :: (Bl, listOf bv.toArray bc) :: (Cl, listOf cv.toArray cc) :: (S1.heap.objs.size + 1 + 1 + 1 + 1, oW) :: (S1.heap.objs.size + 1, oT) :: (220, tabObj ps) :: (tl ++ own)) N6 (by kst_inAny)
              clear N6
              (repeat (rename @LT.lt Nat _ _ _ ∧ _ => hx9; clear hx9))
              try k_fold
              k_steps
              refine Hold.intro ?_
              try k_fold
              refine' ListComp_rows (K := hd.heap_1 W0.params) ?k0 ?k1 ?k2 ?k3 ?k4 ?k5 ?k6 ?k7 ?k8 ?k9 ?k10 ?k11 ?k12
              (case k0 => k_asm)
              (case k12 => (intro _; rfl))
              (case k3 => rfl)
              (case k5 => rfl)
              (case k6 => rfl)
              (case k7 => rfl)
              (case k8 => decide +kernel)
              (case k9 => decide +kernel)
              (case k10 => decide +kernel)
              (case k2 => decide)
              (case k4 => decide)
              (case k1 => (with_unfolding_all rfl))
              k_steps
              (rename Fr _ _ _ _ => F6); (rename News _ _ _ _ => N6)
              have N9 := kst_newsOf (l' := (Wl, listOf wv.toArray 0) :: (Pl, listOf pv.toArray pk) :: (Oa, listOf ov.toArray oc) :: (S1.heap.objs.size + 1 + 1, oP2) :: (FaL, listOf fv.toArray fc) :: (OL, listOf #[Value.ref Cl, Value.ref Rl, Value.ref Bl, Value.ref Zl] 0) :: (Rl, listOf rv.toArray 0) :: (FrL, listOf ys.toArray ys.length) :: (Tk, listOf tv.toArray tc) :: (Zl, listOf zv.toArray zc) :: (Bl, listOf bv.toArray bc) :: (Cl, listOf cv.toArray cc) :: (S1.heap.objs.size + 1 + 1 + 1 + 1, oW) :: (S1.heap.objs.size + 1, oT) :: (220, tabObj ps) :: (tl ++ own)) N6 (by
                kst_inAny)
              refine Hold.intro ?_
              refine' Ctr.use (cd_c _ hwi hpi (by omega) (by omega)) ?k1 ?k2 ?k3 ?k4 ?k5 ?k6 ?k7 ?k8 ?_
              (case k1 => k_asm); (case k2 => k_asm); (case k3 => k_asm); (case k5 => k_asm); (case k6 => first | exact rfl | assumption); (case k7 => ktr_room); (case k8 => ktr_units)
              (case k4 => exact N9)
              rintro r9 n9 h9 t9 F5 N5 ⟨T1l, us9, sk, tlx, rfl, rfl, hmis⟩
              clear F6 N6 N9
              (repeat (rename @LT.lt Nat _ _ _ ∧ _ => hx9; clear hx9))
              refine' RowsSrc.intro (rs := cdRows wn pn) (RowsAt.mk ?r1 hIn ?r3 ?r4 F5 N5 List.mem_cons_self hmis ?r5 ?r6 ?r7)
              (case r1 => rfl)
              (case r3 => k_dflt k_is)
              (case r4 => k_dflt k_is)
              · have h1 := cdUp_len _ (cdStep_len wn pn) wn.length
                have h2 := cdUp_len _ (cdStep2_len wn pn) pn.length
                unfold cdRows
                rw [List.length_append]
                omega
              · intro nx r u1 u2 u3 I oI C oC D ys9 m₂ h tk E' hsub hC hx hy hz F7 N7 off ne
                clear F5 N5
                try k_fold
                k_steps
                rename_i T9 _ F5 N5 l5
                refine Hold.intro ?_
                unfold qk
                refine LCg.CompEnd.intro F5 N5 ((T9, tupOf [.int r.1 u1, .int r.2.1 u2, .int r.2.2 u3]) :: nx) ?_ ?_ ?_ ?_
                · intro p hp
                  simp only [List.mem_cons] at hp ⊢
                  rcases hp with h | h | h | h | h
                  · exact .inr (.inl h)
                  · exact .inr (.inr (.inl h))
                  · exact .inr (.inr (.inr (.inl h)))
                  · exact .inl h
                  · exact .inr (.inr (.inr (.inr h)))
                · exact ⟨⟨Nat.ne_of_gt l5.1, Nat.ne_of_gt l5.2.1, Nat.ne_of_gt l5.2.2.1⟩, off⟩
                · exact .tail _ (hsub _ (.head _))
                · exact ⟨fun p h => .tail _ h, .tuple (n := 0) (vs := [.int r.1 u1, .int r.2.1 u2, .int r.2.2 u3]) (.head _) (.cons (.int _ _) (.cons (.int _ _) (.cons (.int _ _) .nil)))⟩
              · intro ys9 D h tk nx hsub hdat F7 N7 hD
                clear F5 N5
                k_with "call ref" => (refine unhold ?_)
                k_with "binaryOp Add ref ref" => (refine unhold ?_)
                k_with "binaryOp Add" => (refine unhold ?_)
                k_with "pyIter ref" => (refine unhold ?_)
                k_with "eval ListComp" => (refine unhold ?_)
                k_with "call builtin:max" => (refine unhold ?_)
                have hdat2 := hdat
                rw [rows_eq hPd] at hdat2
                have s1 : ∀ p ∈ (Wl, listOf wv.toArray 0) :: (Pl, listOf pv.toArray pk) :: (Oa, listOf ov.toArray oc) :: (S1.heap.objs.size + 1 + 1, oP2) :: (FaL, listOf fv.toArray fc) :: (OL, listOf #[Value.ref Cl, Value.ref Rl, Value.ref Bl, Value.ref Zl] 0) :: (Rl, listOf rv.toArray 0) :: (FrL, listOf ys.toArray ys.length) :: (Tk, listOf tv.toArray tc) :: (Zl, listOf zv.toArray zc) :: (Bl, listOf bv.toArray bc) :: (Cl, listOf cv.toArray cc) :: (S1.heap.objs.size + 1 + 1 + 1 + 1, oW) :: (S1.heap.objs.size + 1, oT) :: (220, tabObj ps) :: (tl ++ own), p ∈ (D, LCg.lst ys9) :: nx := sub_fwd (fun p hp => List.Mem.tail _ (hsub p hp)) (by kst_inAny)
                have N8 : News _ _ _ ((Wl, listOf wv.toArray 0) :: (Pl, listOf pv.toArray pk) :: (Oa, listOf ov.toArray oc) :: (S1.heap.objs.size + 1 + 1, oP2) :: (FaL, listOf fv.toArray fc) :: (OL, listOf #[Value.ref Cl, Value.ref Rl, Value.ref Bl, Value.ref Zl] 0) :: (Rl, listOf rv.toArray 0) :: (FrL, listOf ys.toArray ys.length) :: (Tk, listOf tv.toArray tc) :: (Zl, listOf zv.toArray zc) :: (Bl, listOf bv.toArray bc) :: (Cl, listOf cv.toArray cc) :: (S1.heap.objs.size + 1 + 1 + 1 + 1, oW) :: (S1.heap.objs.size + 1, oT) :: (220, tabObj ps) :: ((tl ++ own) ++ (D, LCg.lst ys9) :: nx)) := kst_newsOf (l' := ((Wl, listOf wv.toArray 0) :: (Pl, listOf pv.toArray pk) :: (Oa, listOf ov.toArray oc) :: (S1.heap.objs.size + 1 + 1, oP2) :: (FaL, listOf fv.toArray fc) :: (OL, listOf #[Value.ref Cl, Value.ref Rl, Value.ref Bl, Value.ref Zl] 0) :: (Rl, listOf rv.toArray 0) :: (FrL, listOf ys.toArray ys.length) :: (Tk, listOf tv.toArray tc) :: (Zl, listOf zv.toArray zc) :: (Bl, listOf bv.toArray bc) :: (Cl, listOf cv.toArray cc) :: (S1.heap.objs.size + 1 + 1 + 1 + 1, oW) :: (S1.heap.objs.size + 1, oT) :: (220, tabObj ps) :: (tl ++ own)) ++ ((D, LCg.lst ys9) :: nx)) N7 (fun p hp => (List.mem_append.mp hp).elim (s1 p) id)
                clear N7
                unfold qk
                try k_fold
                k_steps
                refine Hold.intro ?_
                refine' Ctr.use (rows_c (rest := (Oa, listOf ov.toArray oc) :: (S1.heap.objs.size + 1 + 1, oP2) :: (FaL, listOf fv.toArray fc) :: (OL, listOf #[Value.ref Cl, Value.ref Rl, Value.ref Bl, Value.ref Zl] 0) :: (Rl, listOf rv.toArray 0) :: (FrL, listOf ys.toArray ys.length) :: (Tk, listOf tv.toArray tc) :: (Zl, listOf zv.toArray zc) :: (Bl, listOf bv.toArray bc) :: (Cl, listOf cv.toArray cc) :: (S1.heap.objs.size + 1 + 1 + 1 + 1, oW) :: (S1.heap.objs.size + 1, oT) :: (220, tabObj ps) :: ((tl ++ own) ++ (D, LCg.lst ys9) :: nx)) _ hwi hpi (by omega) hpnl) ?k1 ?k2 ?k3 ?k4 ?k5 ?k6 ?k7 ?k8 ?_
                (case k1 => k_asm); (case k2 => k_asm); (case k3 => k_asm); (case k5 => k_asm); (case k6 => first | exact rfl | assumption); (case k7 => ktr_room); (case k8 => ktr_units)
                (case k4 => exact N8)
                rintro r9 n9 h9 t9 F5 N5 ⟨D2l, us2, tlx2, rfl, rfl, hrows2⟩
                clear F7 N8
                (repeat (rename @LT.lt Nat _ _ _ ∧ _ => hx9; clear hx9))
                try k_fold
                k_steps
                (rename News _ _ _ _ => N6)
                refine Hold.intro (dat_ne (d := .list (lawRows wn pn)) N6 (.list (n := ys9.length) (List.mem_cons_self : (D, listOf ys9.toArray ys9.length) ∈ (D, LCg.lst ys9) :: nx) (DatAll.mono (fun _ h => List.mem_cons_of_mem _ h) hdat2)) ?_ (.list List.mem_cons_self hrows2) (fun _ h => h) (ok_rows wn pn) (by ke_room) ?_)
                · kst_inAny
                have N8 := kst_newsOf (l' := (Wl, listOf wv.toArray 0) :: (Pl, listOf pv.toArray pk) :: (Oa, listOf ov.toArray oc) :: (S1.heap.objs.size + 1 + 1, oP2) :: (FaL, listOf fv.toArray fc) :: (OL, listOf #[Value.ref Cl, Value.ref Rl, Value.ref Bl, Value.ref Zl] 0) :: (Rl, listOf rv.toArray 0) :: (FrL, listOf ys.toArray ys.length) :: (Tk, listOf tv.toArray tc) :: (Zl, listOf zv.toArray zc) :: (Bl, listOf bv.toArray bc) :: (Cl, listOf cv.toArray cc) :: (S1.heap.objs.size + 1 + 1 + 1 + 1, oW) :: (S1.heap.objs.size + 1, oT) :: (220, tabObj ps) :: (tl ++ own)) N6 (by
                  kst_inAny)
                clear N6
                (repeat (rename @LT.lt Nat _ _ _ ∧ _ => hx9; clear hx9))
                try k_fold
                k_steps
                refine Hold.intro ?_
                k_dflt (refine LCg.ListComp_U (F₀ := by k_asm) (by with_unfolding_all rfl) (by decide) (by rfl) (by decide) (by rfl) ?_)
                try k_fold
                k_steps
                (rename Fr _ _ _ _ => F6); (rename News _ _ _ _ => N6)
                refine Hold.intro (comp_map (fun car => pn.getD car.toNat 0 - wn.getD car.toNat 0) (by rfl) F6 N6 (by k_memK) hci (by rw [rangeKs_length]; omega) ?_ ?_)
                · intro n t I oI C oC D ys m₂ g h tk E' hn hC hx F7 N7 off ne hS
                  clear F6 N6
                  (repeat (rename @LT.lt Nat _ _ _ ∧ _ => hx9; clear hx9))
                  (try dsimp only [List.nil_append, List.cons_append] at N7); (try simp only [List.append_nil] at N7)
                  (try dsimp only)
                  have hnb := mem_rangeKs hn
                  try k_fold
                  k_steps
                  refine Hold.intro (LCg.CompEnd.intro (by assumption) (by assumption) _ (fun _ h => h) off hS ⟨rfl, _, rfl⟩)
                · intro g zs hzs
                  clear F6 N6
                  (repeat (rename @LT.lt Nat _ _ _ ∧ _ => hx9; clear hx9))
                  intro D h tk F7 N7 off
                  (try dsimp only)
                  try k_fold
                  k_steps
                  refine Hold.intro ?_
                  refine kso_max F7 N7 (kso_isList N7 (by k_memK) rfl) hzs (by rw [List.length_map, rangeKs_length]; omega) (by rfl) ?_
                  clear F7 N7
                  intro h' M' t' k' F6 N6 hM1 hM2
                  try k_fold
                  k_with "call builtin:list.append" => (refine unhold ?_)
                  try k_fold
                  k_steps
                  refine Hold.intro ?_
                  have N8 := kst_newsOf (l' := (FaL, listOf fv.toArray fc) :: (Pl, listOf pv.toArray pk) :: (Wl, listOf wv.toArray 0) :: (Oa, listOf ov.toArray oc) :: (S1.heap.objs.size + 1 + 1, oP2) :: (OL, listOf #[Value.ref Cl, Value.ref Rl, Value.ref Bl, Value.ref Zl] 0) :: (Rl, listOf rv.toArray 0) :: (FrL, listOf ys.toArray ys.length) :: (Tk, listOf tv.toArray tc) :: (Zl, listOf zv.toArray zc) :: (Bl, listOf bv.toArray bc) :: (Cl, listOf cv.toArray cc) :: (S1.heap.objs.size + 1 + 1 + 1 + 1, oW) :: (S1.heap.objs.size + 1, oT) :: (220, tabObj ps) :: (tl ++ own)) N6 (by
                    kst_inAny)
                  clear N6
                  (repeat (rename @LT.lt Nat _ _ _ ∧ _ => hx9; clear hx9))
                  have hfl := hfi.length
                  refine append_first F6 N8 ?_ (by omega) ?_
                  · intro p hp
                    simp only [List.mem_cons] at hp
                    rcases hp with rfl | rfl | rfl | rfl | rfl | rfl | rfl | rfl | rfl | rfl | rfl | rfl | rfl | rfl | hp
                    · exact Nat.ne_of_gt (lP3 (FaL, listOf fv.toArray fc) (by first | k_memK | simp))
                    · exact Nat.ne_of_lt (show @LT.lt Nat _ Wl FaL by first | assumption | omega)
                    · simp only [List.mem_cons, List.not_mem_nil, or_false] at hOm
                      rcases hOm with h | h | h | h
                      · exact Nat.ne_of_gt (show @LT.lt Nat _ FaL Oa by rw [(Prod.mk.inj h).1]; exact hz8)
                      · exact Nat.ne_of_lt (show @LT.lt Nat _ Oa FaL by rw [(Prod.mk.inj h).1]; first | assumption | omega)
                      · exact Nat.ne_of_lt (show @LT.lt Nat _ Oa FaL by rw [(Prod.mk.inj h).1]; first | assumption | omega)
                      · exact Nat.ne_of_lt (show @LT.lt Nat _ Oa FaL by rw [(Prod.mk.inj h).1]; first | assumption | omega)
                    · exact Nat.ne_of_lt (show @LT.lt Nat _ (S1.heap.objs.size + 1 + 1) FaL by first | assumption | omega)
                    · exact Nat.ne_of_gt (show @LT.lt Nat _ FaL OL by first | assumption | omega)
                    · exact Nat.ne_of_gt (show @LT.lt Nat _ FaL Rl by first | assumption | omega)
                    · exact Nat.ne_of_lt (show @LT.lt Nat _ FrL FaL by first | assumption | omega)
                    · exact Nat.ne_of_lt (show @LT.lt Nat _ Tk FaL by first | assumption | omega)
                    · exact Nat.ne_of_lt (show @LT.lt Nat _ Zl FaL by first | assumption | omega)
                    · exact Nat.ne_of_lt (show @LT.lt Nat _ Bl FaL by first | assumption | omega)
                    · exact Nat.ne_of_lt (show @LT.lt Nat _ Cl FaL by first | assumption | omega)
                    · exact Nat.ne_of_lt (show @LT.lt Nat _ (S1.heap.objs.size + 1 + 1 + 1 + 1) FaL by first | assumption | omega)
                    · exact Nat.ne_of_lt (show @LT.lt Nat _ (S1.heap.objs.size + 1) FaL by first | assumption | omega)
                    · exact Nat.ne_of_lt (show @LT.lt Nat _ 220 FaL by first | assumption | omega)
                    · exact hoff p hp _ (by first | k_memK | simp)
                  clear F6 N8
                  intro h' F6 N6
                  try k_fold
                  k_steps
                  refine Hold.intro ?_
                  have hfar : IsFar wn pn M' := ⟨hM1, hM2⟩
                  refine kd_end ⟨oP2, fv ++ [.int M' t'], fn ++ [M'], fc + 1, pn⟩ [(Pl, listOf pv.toArray pk)] hsep F6 N6 ?_ ?_ (by rfl) ?_ ?_ (fun _ h => nomatch h) (by kst_same) ?_ ?_
                  · kst_inAny
                  · kst_anyIn
                  · intro q hq b hb
                    rw [List.mem_singleton.mp hq]
                    exact Nat.ne_of_lt (adr_lt (l := (Wl, listOf wv.toArray 0) :: _) (l' := [(S1.heap.objs.size + 1 + 1, oP), (FaL, listOf fv.toArray fc), (OL, listOf #[Value.ref Cl, Value.ref Rl, Value.ref Bl, Value.ref Zl] 0), (Rl, listOf rv.toArray 0), (FrL, listOf ys.toArray ys.length), (Tk, listOf tv.toArray tc), (Wl, listOf wv.toArray 0), (Zl, listOf zv.toArray zc), (Bl, listOf bv.toArray bc), (Cl, listOf cv.toArray cc), (S1.heap.objs.size + 1 + 1 + 1 + 1, oW), (S1.heap.objs.size + 1, oT), (220, tabObj ps)]) (List.forall_mem_cons.mpr ⟨lP1, lP3⟩) rfl (by kst_inAny) b hb)
                  · intro q hq p hp
                    rw [List.mem_singleton.mp hq]
                    exact Nat.ne_of_lt (lP3 p ((by kst_anyIn : ∀ p ∈ own, p ∈ _) p hp))
                  · refine ⟨⟨_, dP2⟩, hfi.append (.cons _ _ .nil), fun _ => ⟨Pl, pv, pk, dP2, kd_new List.mem_cons_self, hpi⟩⟩
                  · refine ⟨by rw [List.length_append, List.length_singleton, hP1], fun j hj => ?_, fun _ => ?_⟩
                    · by_cases hji : j < i
                      · have e1 : (fn ++ [M']).getD j 0 = fn.getD j 0 := by rw [List.getD_eq_getElem?_getD, List.getElem?_append_left (by omega), ← List.getD_eq_getElem?_getD]
                        show IsFar wn _ ((fn ++ [M']).getD j 0)
                        rw [e1]
                        exact hP2 j hji
                      · have hji2 : j = i := by omega
                        have e1 : (fn ++ [M']).getD j 0 = M' := by rw [hji2, List.getD_eq_getElem?_getD, List.getElem?_append_right (by omega), hP1, Nat.sub_self]; rfl
                        show IsFar wn _ ((fn ++ [M']).getD j 0)
                        rw [e1, hji2, hon, hpn]
                        exact hfar
                    · show pn = _
                      rw [show i + 1 - 1 = i by omega, hon, hpn]
            · intro c7 tl7 u7 h7 tk7 hoff7 hf7 hp7 F7 N7
              k_with "eval ListComp" => (refine unhold ?_)
              k_with "call builtin:min" => (refine unhold ?_)
              obtain ⟨oP, fv, fn, fc, pn0⟩ := c7
              (try dsimp only at hf7 hp7 F7 N7); (try dsimp only [kstB] at F7)
              obtain ⟨⟨vP, dP⟩, hfi, hfp⟩ := hf7
              obtain ⟨hP1, hP2, hP3⟩ := hp7
              obtain ⟨Dp, pv, pk, dP2, hDm, hpi⟩ := hfp (by rw [hP1]; exact Nat.zero_lt_succ 3)
              have hzn : ords.getD 3 [] = zn := by rw [hords]; rfl
              have hpz : pn0 = (filling wn zn).2 := by rw [hP3 (Nat.zero_lt_succ 3), ← hzn]; rfl
              have hzo2 : zn.Pairwise fun x y => wn.getD x.toNat 0 ≤ wn.getD y.toNat 0 := by simpa using hzo
              have hoz := ord_of hzp
              have hpd := fill_placed hb1 hoz
              rw [← hpz] at hpd
              have hup := wish_rises hb1 hoz hzo2
              rw [← hpz] at hup
              have hpl := hpd.len
              have N8 := kst_newsOf (l' := (Dp, listOf pv.toArray pk) :: (S1.heap.objs.size + 1 + 1, oP) :: (FaL, listOf fv.toArray fc) :: (OL, listOf #[Value.ref Cl, Value.ref Rl, Value.ref Bl, Value.ref Zl] 0) :: (Rl, listOf rv.toArray 0) :: (FrL, listOf ys.toArray ys.length) :: (Tk, listOf tv.toArray tc) :: (Wl, listOf wv.toArray 0) :: (Zl, listOf zv.toArray zc) :: (Bl, listOf bv.toArray bc) :: (Cl, listOf cv.toArray cc) :: (S1.heap.objs.size + 1 + 1 + 1 + 1, oW) :: (S1.heap.objs.size + 1, oT) :: (220, tabObj ps) :: tl7) N7 (by
                intro p hp
                rcases List.mem_cons.mp hp with h | hp
                · rw [h]
                  exact List.mem_append_right _ hDm
                · exact hp)
              clear N7
              show wpAny _ _ (execs _ _) _ _ _
              try k_fold
              k_steps
              refine Hold.intro ?_
              k_dflt (refine LCg.ListComp_U (F₀ := by k_asm) (by with_unfolding_all rfl) (by decide) (by rfl) (by decide) (by rfl) ?_)
              try k_fold
              k_steps
              (rename Fr _ _ _ _ => F6); (rename News _ _ _ _ => N6)
              refine Hold.intro (comp_map (fun car => pn0.getD car.toNat 0) (by rfl) F6 N6 (by k_memK) hzi (by rw [hoz.len]; omega) ?_ ?_)
              · intro n t I oI C oC D zs m₂ g h tk E' hn hC hx F7 N7 off ne hS
                clear F6 N6
                (repeat (rename @LT.lt Nat _ _ _ ∧ _ => hx9; clear hx9))
                (try dsimp only [List.nil_append, List.cons_append] at N7); (try simp only [List.append_nil] at N7)
                (try dsimp only)
                have hnb := (hoz.mem n).mp hn
                try k_fold
                k_steps
                refine Hold.intro (LCg.CompEnd.intro (by assumption) (by assumption) _ (fun _ h => h) off hS ⟨rfl, _, rfl⟩)
              · intro g zs hzs
                clear F6 N6
                (repeat (rename @LT.lt Nat _ _ _ ∧ _ => hx9; clear hx9))
                intro D h tk F7 N7 off
                (try dsimp only)
                rw [hup] at hzs
                try k_fold
                k_steps
                (rename News _ _ _ _ => N6)
                refine Hold.intro (dat_ne (d := .list ((takens wn (wn.length + 6)).map Dat.int)) N6 (.list (n := zs.length) (List.mem_cons_self : (D, listOf zs.toArray zs.length) ∈ [(D, LCg.lst zs)]) (ints_dat hzs)) ?_ (.list (by k_memK) (ints_dat hti)) (fun _ h => h) (ok_ints 8 _) (by ke_room) ?_)
                · intro p hp
                  rw [List.mem_singleton.mp hp]
                  exact .head _
                k_with "subscriptTail" => (refine unhold ?_)
                try k_fold
                k_steps
                obtain ⟨t3, hx3⟩ := hfi.get 3 (fn.getD 3 0) (by rw [List.getD_eq_getElem?_getD, List.getElem?_eq_getElem (by rw [hP1]; exact Nat.le_refl 4)]; rfl)
                (rename News _ _ _ _ => N6)
                refine Hold.intro (item_litK (News.isList N6 (by k_memK)) (by omega) (by omega) hx3 ?_)
                k_steps
                refine Hold.intro ?_
                (rename Fr _ _ _ _ => F6)
                refine kso_min F6 N6 (kso_isList N6 (by k_memK) rfl) hfi (by rw [hP1]; exact Nat.zero_lt_succ 3) (by rfl) ?_
                clear F6 N6
                (repeat (rename @LT.lt Nat _ _ _ ∧ _ => hx9; clear hx9))
                intro h' M' t' k' F6 N6 hM1 hM2
                have hM : fn.getD 3 0 = M' := by
                  refine Int.le_antisymm ?_ (hM2 _ (mem_getD.mpr ⟨3, by rw [hP1]; exact Nat.le_refl 4, rfl⟩))
                  obtain ⟨j, hj, rfl⟩ := mem_getD.mp hM1
                  have hj4 : j < 4 := by rw [hP1] at hj; exact hj
                  obtain ⟨_, _, _, _, _, _, hOj, _⟩ := hoa j _ (List.getElem?_eq_getElem (show j < [Value.ref Cl, Value.ref Rl, Value.ref Bl, Value.ref Zl].length from hj4))
                  have h3 := hP2 3 (Nat.le_refl 4)
                  rw [hzn] at h3
                  exact far_least hb1 hoz hzo2 hOj h3 (hP2 j hj4)
                rw [hM]
                k_steps)
end
end Mine
theorem PySem.Challenge.cw_ik0115_01_holds : PySem.Challenge.rw_ik0115_01.Holds := by
  exact Mine.lw
