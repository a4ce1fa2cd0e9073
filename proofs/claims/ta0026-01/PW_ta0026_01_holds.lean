import PyProof.Rows.All
import Wide.All
import OpenK.AllK
import Wide.FinOn
import Lean
import PySem.Challenge.RW_ta0026_01
set_option Elab.async false
set_option maxRecDepth 100000
set_option linter.all false
section
open PySem PySem.W PySem.Calls PyProof.Rows
namespace Mine
theorem sij {α : Type} {a b : α} (h : some a = some b) : a = b := Option.some.inj h
theorem iml {a b c : Int} (h : b ≤ c) (k : 0 ≤ a) : a * b ≤ a * c := Int.mul_le_mul_of_nonneg_left h k
theorem imr {a b c : Int} (h : a ≤ b) (k : 0 ≤ c) : a * c ≤ b * c := Int.mul_le_mul_of_nonneg_right h k
abbrev theRow := PySem.Challenge.rw_ta0026_01
abbrev theText := theRow.row.prog
theorem lk_fenced : sreFenced theText.main = true := by decide +kernel
theorem lk_modules : ((moduleNames theText.main.body).isEmpty || lookedIntoSs (moduleNames theText.main.body) theText.main.body) = true := by decide +kernel
theorem lk_resolve : namesResolve theText = true := by decide +kernel
theorem lk_bound : theText.boundNames.all (fun n => !worldNames.contains n) = true := by decide +kernel
theorem lk_bare : (["vars", "dir", "locals"] : List Str).filter (readsOut theText theText.main.body) = [] := by decide +kernel
theorem lk_road : noRoadLSs { strict := !(importedModules theText.main.body).all cThrough.contains, foot := none, bare := (["vars", "dir", "locals"] : List Str).filter (readsOut theText theText.main.body) } theText.main.body = true := by
 rw [lk_bare]
 decide +kernel
theorem lk_meet : (namesMeet theText theText.main.body fun _ n => attrL n) = true := by decide +kernel
theorem lk_open : looksOpen theText = true := by
 unfold looksOpen
 simp only [Bool.and_eq_true]
 exact ⟨⟨⟨⟨⟨lk_fenced, lk_modules⟩, lk_resolve⟩, lk_bound⟩, lk_road⟩, lk_meet⟩
theorem row_part : theRow.row.partSaid = true := by
 unfold OpenRow.partSaid
 simp only [Bool.and_eq_true]
 refine ⟨⟨⟨⟨⟨⟨⟨⟨⟨⟨⟨⟨⟨lk_open, ?_⟩, ?_⟩, ?_⟩, ?_⟩, ?_⟩, ?_⟩, ?_⟩, ?_⟩, ?_⟩, ?_⟩, ?_⟩, ?_⟩, ?_⟩
 all_goals decide +kernel
theorem row_well : theRow.row.wellSaid = true := by
 unfold OpenRow.wellSaid
 simp only [Bool.and_eq_true]
 refine ⟨⟨row_part, ?_⟩, ?_⟩
 all_goals decide +kernel
theorem hd_said : PySem.Challenge.rw_ta0026_01.wellSaid = true := by
 unfold OpenLaw.wellSaid
 simp only [Bool.and_eq_true]
 refine ⟨⟨⟨⟨⟨⟨⟨⟨⟨⟨⟨⟨⟨⟨⟨⟨⟨⟨row_well, ?_⟩, ?_⟩, ?_⟩, ?_⟩, ?_⟩, ?_⟩, ?_⟩, ?_⟩, ?_⟩, ?_⟩, ?_⟩, ?_⟩, ?_⟩, ?_⟩, ?_⟩, ?_⟩, ?_⟩, ?_⟩
 all_goals decide +kernel
theorem na {x : Int} (h : -18446744073709551616 < x ∧ x < 18446744073709551616) : x.natAbs < 2 ^ 64 := by omega
theorem n1 {a b : Nat} (h : a < b) : a ≤ b := Nat.le_of_lt h
theorem n4 {a b c : Nat} (h : a < b) (k : b ≤ c) : a < c := Nat.lt_of_lt_of_le h k
theorem n6 {a b c : Nat} (h : a ≤ b) (k : b < c) : a < c := Nat.lt_of_le_of_lt h k
theorem n9 {a b c : Nat} (h : a ≤ b) (k : b ≤ c) : a ≤ c := Nat.le_trans h k
theorem m1 {a b c : Nat} (h : a ≤ b) (k : b < c) : a < c := Nat.lt_of_le_of_lt h k
theorem m2 {a b c : Nat} (h : a < b) (k : b ≤ c) : a < c := Nat.lt_of_lt_of_le h k
theorem m3 {a b c : Nat} (h : a < b) (k : b ≤ c) : a ≤ c := Nat.le_of_lt (Nat.lt_of_lt_of_le h k)
theorem m4 {a b c : Nat} (h : a + (b + 1) < c) : a < c := Nat.lt_of_le_of_lt (Nat.le_add_right ..) h
theorem m5 {a b c : Nat} (h : a + (b + 1) < c) : a + 1 + b < c := by rw [Nat.add_assoc, Nat.add_comm 1 b]; exact h
theorem m6 {a b : Nat} (h : a ≤ b) : a ≤ b + 1 := Nat.le_succ_of_le h
theorem m9 {a b c : Nat} (h : a < c) (k : c = b) : a < b := k ▸ h
theorem p2 {a b : Nat} (h : ¬ a < b) : b ≤ a := Nat.le_of_not_lt h
theorem p3 {a : Nat} (h : ¬ a = 0) : 0 < a := Nat.pos_of_ne_zero h
theorem q1 {a b : Int} (h : a < b) : a ≤ b := Int.le_of_lt h
theorem q2 {a b c : Int} (h : a < b) (k : b ≤ c) : a < c := Int.lt_of_lt_of_le h k
theorem q3 {a b c : Int} (h : a ≤ b) (k : b < c) : a < c := Int.lt_of_le_of_lt h k
theorem q4 {a b c : Int} (h : a ≤ b) (k : b ≤ c) : a ≤ c := Int.le_trans h k
theorem q5 {a : Int} (h : 1 ≤ a) : 0 ≤ a := Int.le_trans (by decide) h
theorem q7 {a : Int} (h : 0 < a) : ¬ a = 0 := Int.ne_of_gt h
theorem r1 {a b c : Int} (h : a < b) (k : b ≤ c) : a < c := Int.lt_of_lt_of_le h k
theorem r5 {a b : Int} (h : ¬ a < b) : b ≤ a := Int.not_lt.mp h
theorem r6 {a : Nat} : (0 : Int) ≤ (a : Int) := Int.natCast_nonneg a
theorem wg {P : Prop} (h : ∀ P' : Prop, (P → P') → P') : P := h P id
noncomputable def Kz (Γ : Ctx) : Prop := (Γ.code.isCaller || Γ.below.any fun q => q.1.isCaller) = true
noncomputable def wpC {α : Type} (M : Model) (A : Around) (t : Sem α) (Q : α → Shared → Prop) (E : Value → Shared → Prop) (s : Shared) : Prop :=
 ∀ Γ p, Γ.In A → Kz Γ → Sem.wp M Γ t (fun a zz s' => Q a s') (fun e zz s' => E e s') p s
noncomputable def codeC (M : Model) (A : Around) (c : Code) (R : Result → Shared → Prop) (s : Shared) : Prop :=
 ∀ Γ p, Γ.code = c → Γ.Below A → Kz Γ → wpCode M Γ R p s
section
variable {α β : Type} {M : Model} {A : Around} {E : Value → Shared → Prop} {s : Shared}
theorem wpC_of {t : Sem α} {Q : α → Shared → Prop} (h : wpAny M A t Q E s) : wpC M A t Q E s := fun Γ p hΓ zz => h Γ p hΓ
theorem wpC_mono {t : Sem α} {Q Q' : α → Shared → Prop} {E' : Value → Shared → Prop} (h : wpC M A t Q E s) (hQ : ∀ a s, Q a s → Q' a s) (hE : ∀ e s, E e s → E' e s) : wpC M A t Q' E' s :=
 fun Γ p hΓ z => Sem.wp_mono M Γ t (fun a zz s => hQ a s) (fun e zz s => hE e s) p s (h Γ p hΓ z)
theorem wpC_bind {m : Sem α} {f : α → Sem β} {Q : β → Shared → Prop} (h : wpC M A m (fun a s' => wpC M A (f a) Q E s') E s) : wpC M A (m >>= f) Q E s := fun Γ p hΓ z => by
 rw [Sem.wp_bind']
 exact Sem.wp_mono M Γ m (fun a p' s' h' => h' Γ p' hΓ z) (fun zz zz zz h' => h') p s (h Γ p hΓ z)
theorem wpC_pure {a : α} {Q : α → Shared → Prop} (h : Q a s) : wpC M A (pure a) Q E s := fun zz zz zz zz => h
theorem wpC_onRaise {m : Sem α} {k : Value → Sem Unit} {Q : α → Shared → Prop} (h : wpC M A m Q (fun e s' => wpC M A (k e) (fun zz s'' => E e s'') E s') s) : wpC M A (m.onRaise k) Q E s := fun Γ p hΓ z => by
 rw [Sem.wp_onRaise]
 exact Sem.wp_mono M Γ m (fun zz zz zz h' => h') (fun e p' s' h' => h' Γ p' hΓ z) p s (h Γ p hΓ z)
theorem wpC_attempt {m : Sem α} {Q : Except Value α → Shared → Prop} (h : wpC M A m (fun a => Q (.ok a)) (fun e => Q (.error e)) s) : wpC M A m.attempt Q E s := fun Γ p hΓ z => by
 rw [Sem.wp_attempt]; exact h Γ p hΓ z
theorem wpC_holding {vs : List Value} {m : Sem α} {Q : α → Shared → Prop} (h : wpC M A m Q E s) : wpC M A (holding vs m) Q E s := fun Γ p hΓ z => by
 rw [Sem.wp_holding]; exact h Γ p hΓ z
theorem wpC_standAt {pos : Pos} {Q : Unit → Shared → Prop} (h : Q () s) : wpC M A (standAt pos) Q E s := fun zz zz zz zz => h
theorem Kz.enter {Γ : Ctx} (z : Kz Γ) (c : Code) (h : Option Value) (p : Pos) : Kz (Γ.enter c h p) := by
 dsimp only [Kz, Ctx.enter] at *
 simp only [List.any_cons]
 rw [z, Bool.or_true]
theorem wpC_runValue {c : Code} {Q : Value → Shared → Prop} (hc : codeC M A c (fun r s' => match r with | .ok (.ret v) => Q v s' | .ok _ => False | .error e => E e s') s) : wpC M A (runValue c) Q E s := fun Γ p hΓ z => by
 rw [Sem.wp_runValue]; exact hc _ p rfl (hΓ.enter c none p (by intro x; cases x)) (z.enter _ _ _)
theorem wpC_call {f : Value} {pos : List Value} {kw : List (Str × Value)} {Q : Value → Shared → Prop}
 (hc : codeC M A (.call f ⟨pos, kw⟩) (fun r s' => match r with | .ok (.ret v) => Q v s' | .ok _ => False | .error e => E e s') s) : wpC M A (call f pos kw) Q E s := wpC_runValue hc
theorem wpC_run {c : Code} {h : Option Value} {Q : Flow → Shared → Prop} (hc : codeC M (A.mark h) c (fun r s' => match r with | .ok f => Q f s' | .error e => E e s') s) (hnb : h ≠ some byPass) : wpC M A (run c h) Q E s := fun Γ p hΓ z => by
 rw [Sem.wp_run]; exact hc _ p rfl (hΓ.enter c h p hnb) (z.enter _ _ _)
theorem codeC_of {c : Code} {R : Result → Shared → Prop} (h : codeAny M A c R s) : codeC M A c R s := fun Γ p hc hΓ zz => h Γ p hc hΓ
theorem codeC_of_tree {c : Code} {R : Result → Shared → Prop} (h : wpC M (A.under c) (M.den c) (fun fin s' => match fin with | .done f => R (.ok f) s' | .again c' => c'.quiet = true ∧ c.isCaller = false ∧ codeC M A c' R s') (fun e s' => R (.error e) s') s) : codeC M A c R s := fun Γ p hc hΓ z => by
 rw [wpCode_iff_wp, hc]
 refine Sem.wp_mono M Γ _ (fun fin p' s' h' => ?_) (fun zz zz zz h' => h') p s (h Γ p (hc ▸ hΓ.in) z)
 cases fin with
 | done f => exact h'
 | again c' =>
   refine ⟨h'.1, h'.2.2 (Γ.goto c') p' rfl (hΓ.goto c') ?_⟩
   unfold Kz at z
   rw [hc, h'.2.1, Bool.false_or] at z
   unfold Kz
   show (c'.isCaller || Γ.below.any fun q => q.1.isCaller) = true
   rw [z, Bool.or_true]
theorem codeC_loop {c : Code} {R : Result → Shared → Prop} (hq : c.quiet = true) (hk : c.isCaller = false) (I : Nat → Shared → Prop)
   (turn : ∀ n s, I n s → wpC M (A.under c) (M.den c) (fun fin s' => match fin with
       | .done f => R (.ok f) s'
       | .again c' => (c' = c ∧ ∃ m, m < n ∧ I m s') ∨ (c'.quiet = true ∧ codeC M A c' R s')) (fun e s' => R (.error e) s') s) : ∀ (n : Nat) {s : Shared}, I n s → codeC M A c R s := by
 intro n
 induction n using Nat.strongRecOn with
 | ind n ih =>
   intro s h
   refine codeC_of_tree (wpC_mono (turn n s h) (fun fin s' hf => ?_) fun zz zz h' => h')
   cases fin with
   | done f => exact hf
   | again c' =>
     rcases hf with ⟨rfl, m, hm, hI⟩ | hf
     · exact ⟨hq, hk, ih m hm hI⟩
     · exact ⟨hf.1, hk, hf.2⟩
end
theorem wp_of_wpC_done {M : Model} {t : Sem PySem.Fin} {R : Result → Shared → Prop} {s : Shared} (h : wpC M callerA t (fun fin s' => ∃ f, fin = .done f ∧ R (.ok f) s') (fun e s' => R (.error e) s') s) (p : Pos) :
   Sem.wp M ⟨.builtin "claim.caller" {}, none, none, [], none⟩ t (Sem.finPost M ⟨.builtin "claim.caller" {}, none, none, [], none⟩ R) (fun e zz s' => R (.error e) s') p s := by
 refine Sem.wp_mono M _ t (fun fin p' s' h' => ?_) (fun zz zz zz h' => h') p s (h _ p caller_in (by unfold Kz; decide +kernel))
 obtain ⟨f, rfl, hf⟩ := h'
 exact hf
theorem thread_endsC {prog : Program} {w : World} {t : Sem PySem.Fin} {s : Shared} {R : Result → Shared → Prop} (hreg : s.asleep)
   (h : wpC (model prog w) callerA t (fun fin s' => ∃ f, fin = .done f ∧ (R (.ok f) s' ∧ leftWithCleanup s'.gens = false)) (fun e s' => R (.error e) s' ∧ leftWithCleanup s'.gens = false) s) :
   ∃ n r s' s'', runN (denote table) prog w n s ⟨t, .builtin "claim.caller" {}, default, []⟩ = .halted (outcomeOf r) s' ∧
     schedN (denote table) prog w n (.single s ⟨t, .builtin "claim.caller" {}, default, []⟩) = .halted (outcomeOf r) s' ∧ s'.forget = s''.forget ∧ R r s'' := by
 obtain ⟨n, r, s₁, s₂, hs, hn, hfo, hR⟩ := wp_halts_full (M := model prog w) (R := R) hreg (wp_of_wpC_done (R := fun r s' => R r s' ∧ leftWithCleanup s'.gens = false) h default)
 exact ⟨n, r, s₂, s₁, hn, hs, hfo, hR⟩
theorem callFromC {c : ClaimW} {tree : List Value → Sem PySem.Fin} {w : World} {s : Shared} {free : Addr → Prop} {gens : Prop} {kept : Heap → Prop} (hz : s.asleep) (hgens : s.gens = #[])
   (hspec : ∀ args, c.pre args = true → WData.layableAll args = true → ∀ ord : List DictEntry → List DictEntry, (∀ l, (ord l).Perm l) →
     ∃ vs s₁, layAllW c.records (classAt s.heap) w.params ord args s = some (vs, s₁) ∧
       wpC (model c.prog w) callerA (tree vs) (fun fin s' => ∃ f, fin = .done f ∧ (c.Ends s args vs s₁ (.ok f) s' ∧ s'.os = s.os ∧ AllBare s'.gens ∧ kept s'.heap))
         (fun e s' => c.Ends s args vs s₁ (.error e) s' ∧ s'.os = s.os ∧ AllBare s'.gens ∧ kept s'.heap) s₁) :
   c.CallFrom (fun vs => ⟨tree vs, .builtin "claim.caller" {}, default, []⟩) w free gens kept s := by
 intro args hpre hlay ord hord
 refine wg fun P' bk => ?_
 obtain ⟨vs, s₁, hlaid, hcode⟩ := hspec args hpre hlay ord hord
 have hal := layAllW_rest _ _ _ hlaid
 obtain ⟨k, r, s', s'', hrun, hsched, hfo, hcase, hos, hkp⟩ := thread_endsC (prog := c.prog) (w := w) (t := tree vs) (s := s₁)
   (R := fun r s' => c.Ends s args vs s₁ r s' ∧ s'.os = s.os ∧ kept s'.heap)
   (Shared.asleep_of_life hal.2.2.2 hz)
   (wpC_mono hcode (by
     rintro fin s' ⟨f, e, h1, h2, h3, h4⟩
     exact ⟨f, e, ⟨h1, h2, h4⟩, leftWithCleanup_false_of_bare h3⟩) (by
     rintro e s' ⟨h1, h2, h3, h4⟩
     exact ⟨⟨h1, h2, h4⟩, leftWithCleanup_false_of_bare h3⟩))
 obtain ⟨eh, _, _, eo, _⟩ := Shared.forget_eq hfo
 have hcase := hcase.congr eh
 have hkp : kept s'.heap := by first | exact eh ▸ hkp | (rw [eh] at hkp; exact hkp) | (rw [← eh] at hkp; exact hkp)
 rw [← eo] at hos
 have hlife : s'.heap.life = s.heap.life := (runN_life _ _ _ hrun).trans hal.2.2.2
 refine bk ?_
 refine ⟨vs, s₁, hlaid, k, _, s', hsched, ?_, (fun zz i x hx => by rw [hgens] at hx; simp at hx), hkp, by rw [hlife], Shared.rest_eq hos⟩
 rcases hcase with ⟨v, rfl, d1, d2, d3, d4, d5⟩ | ⟨e, ob, cls, rfl, d1, d2, d3, d4, d5⟩
 · exact .inl ⟨v, rfl, d1, d2, d3, fun b o y zz => d4 b o y, d5⟩
 · exact .inr ⟨e, ob, cls, rfl, d1, d2, d3, d4, fun b o y zz => d5 b o y⟩
theorem openC {r : RowW} {run : Value → List Value → Sem Value} {tree : List Value → Sem PySem.Fin} {q : Program} {loose defs kps : List Str} {writes : Bool} {Xt : Shared → Bool} {XP : (Str → Option Value) → Heap → Prop} {α : Type} {Yf : Shared → α} {Ya : World → α} {YP : World → Heap → Prop} {N : Nat}
   (left : LeftO r.prog q loose Xt Yf Ya N) (hY : ∀ w s, Yf s = Ya w → YP w s.heap) (hYk : ∀ w h h', YP w h → (∀ b o, h.get? b = some o → h'.get? b = some o) → YP w h') (hX : ∀ s, Xt s = true → XP (s.heap.nsMap mainGlobals) s.heap) (hXk : ∀ mg h h', XP mg h → (∀ b o, h.get? b = some o → h'.get? b = some o) → XP mg h')
   (hRf : ∀ s, Xt s = true → RecFacts r.records s.heap) (hwr : (!writes || r.records.isEmpty) = true) (ok : (chainsOk q && opensWell r.prog && (frees r && r.within.isEmpty)) = true) (hb : r.prog.bare) (hw : r.promised)
   (ht : ∀ vs (w : World) (s : Shared) mg f (Q : PySem.Fin → Shared → Prop) (E : Value → Shared → Prop), s.heap.Ns mainGlobals mg → mg r.name = some f → wpC (model r.prog w) callerA (run f vs) (fun v s' => Q (.done (.ret v)) s') E s → wpC (model r.prog w) callerA (tree vs) Q E s)
   (pin : ∀ w s, s.heap.isNs mainGlobals = true → Ground q loose [] XP w s (s.heap.nsMap mainGlobals) (s.heap.nsMap builtinsNs) s.heap → ∀ n ∈ defs, isTheDefsW r.prog s.heap n)
   (call : ∀ (w : World) (s₀ s₁ : Shared) (mg mb : Str → Option Value), Ground q loose r.records XP w s₀ mg mb s₁.heap → YP w s₁.heap → ∀ (args : List WData) (vs : List Value) (as : List Addr),
     r.claim.pre args = true → WData.layableAll args = true → Laid r.records w s₀ s₁ args vs as → sysModules < s₀.heap.objs.size → ∃ f, mg r.name = some f ∧
       wpC (model r.prog w) callerA (run f vs) (fun v s' => GoodWG r.claim (classAt s₀.heap) (ExcName.means s₀.heap) args s₁ (.ok (.ret v)) s')
         (fun e s' => GoodWG r.claim (classAt s₀.heap) (ExcName.means s₀.heap) args s₁ (.error e) s') s₁) : r.claim.HoldsOpenBy (fun vs => ⟨tree vs, .builtin "claim.caller" {}, default, []⟩) defs kps writes := by
 refine wg fun P' bk => ?_
 obtain ⟨ok, k5⟩ := Bool.and_eq_true_iff.mp ok
 obtain ⟨hch, o1⟩ := Bool.and_eq_true_iff.mp ok
 obtain ⟨k5, k6⟩ := Bool.and_eq_true_iff.mp k5
 obtain ⟨hsame, hu, ha, hap, hm⟩ := frees_parts k5
 refine bk ?_
 refine ⟨⟨hb, o1, by show r.makers.map _ = []; rw [hm]; rfl⟩, hw.witness, fun w => ⟨(left.behind hX hch w).1, fun s' hs' => ?_⟩⟩
 refine wg fun P' bk => ?_
 obtain ⟨s₀, hf, hg0, s, hT, hz, hgens, hg, G00, y⟩ := (left.behind (XP := fun mg h => XP mg h ∧ RecFacts r.records h) (fun s hs => ⟨hX s hs, hRf s hs⟩) hch w).2 s' hs'
 have G0 : Ground q loose [] XP w s (s.heap.nsMap mainGlobals) (s.heap.nsMap builtinsNs) s.heap := ⟨G00.T, G00.B, G00.D, G00.TE, G00.TD, G00.W, G00.X.1, G00.cls, G00.has, G00.apart, G00.once, G00.K⟩
 have RF := G00.X.2
 have hT' := hT
 refine bk ?_
 refine ⟨s₀, hf, hg0, s, hT, pin w s hg G0, RF.1, RF.2.1, ?_⟩
 have hgens : s.gens = #[] := Array.eq_empty_of_size_eq_zero (beq_iff_eq.mp hgens)
 have G : Ground q loose r.records XP w s _ _ s.heap := RF.ground G0
 refine callFromC (c := r.claim) hz hgens fun args hpre hlay ord hord => ?_
 obtain ⟨⟨vs, s₁⟩, hlaid⟩ := Option.isSome_iff_exists.mp (layAllW_isSome (P := w.params) (ord := ord) G.has args r.args s (pre_splitW hpre).1)
 have keeps := layAllW_keeps _ _ _ hlaid
 have hal := layAllW_rest _ _ _ hlaid
 obtain ⟨as, hrd, hin, hold⟩ := reads_layAllW hord _ _ _ hlaid hlay s₁.heap (fun zz zz e => e)
 have L : Laid r.records w s s₁ args vs as := ⟨⟨ord, hord, hlaid⟩, hrd, hin, hold, keeps, hal.1.trans hgens, hal.2.2.1⟩
 have G₁ := G.keeps hXk keeps
 obtain ⟨f, hf, h⟩ := call w s s₁ _ _ G₁ (hYk _ _ _ (hY w s y) keeps) args vs as hpre hlay L G.low
 have hi := ident_freeW hu ha hap
 have hwi : r.claim.within = [] := List.isEmpty_iff.mp k6
 exact ⟨vs, s₁, hlaid, ht vs w s₁ _ f _ _ G₁.T.g hf (wpC_mono h (fun v s' g => ⟨_, rfl, have z := g.laid (c := r.claim) hsame hwi hi L; ⟨z.1, z.2.1, z.2.2, fun q => ⟨namesKept_of hT' hg kps keeps g.2.1.old, noTable hwr q⟩⟩⟩) fun e s' g => have z := g.laid (c := r.claim) hsame hwi hi L; ⟨z.1, z.2.1, z.2.2, fun q => ⟨namesKept_of hT' hg kps keeps g.2.1.old, noTable hwr q⟩⟩)⟩
noncomputable abbrev WalkC (q : Program) (loose : List Str) (XP : (Str → Option Value) → Heap → Prop) (YP : World → Heap → Prop) (r : RowW) (d : DefRec) (kwd : List (Str × PySem.Expr)) (run : Value → List Value → Sem Value) : Prop :=
 ∀ (w : World) (s₀ s₁ : Shared) (mg mb : Str → Option Value), Ground q loose r.records XP w s₀ mg mb s₁.heap → YP w s₁.heap → ∀ (a : Addr) (o : Obj) (pm cd doc dV kV : Value), s₁.heap.get? a = some o →
   o.data = .func { docDef d.name d.params d.body d.scope pm cd doc with defaults := dV, kwdefaults := kV } → s₁.heap.CodeRec cd d.name → Dflts mg s₁.heap d.params kwd dV kV → mg d.name = some (.ref a) → s₁.gens = #[] →
   ∀ (args : List WData) (vals : List Value) (as : List Addr), r.claim.pre args = true → WData.layableAll args = true → ReadsAllW r.records (classAt s₀.heap) s₁.heap vals args as → WellAll w.params s₁.heap vals args → (∀ a ∈ as, (a == sysModules) = false) →
     wpC (model r.prog w) callerA (run (.ref a) vals) (fun v s' => GoodWG r.claim (classAt s₀.heap) (ExcName.means s₀.heap) args s₁ (.ok (.ret v)) s')
       (fun e s' => GoodWG r.claim (classAt s₀.heap) (ExcName.means s₀.heap) args s₁ (.error e) s') s₁
noncomputable def ends (p : Program) (w : World) (N : Nat) : {x // openEnds treeTable p w N = x} := by
 refine ⟨?x, ?h⟩
 case h =>
   unfold openEnds fencedOpening topFrom
   rw [Fast.te10274390034422433532, Fast.te14364793385576792824, Fast.te1435165496053646825, Fast.te14289696077712309145, Fast.te14082659384304107361]
end Mine
theorem Mine.PySem.W.holds_open {q : Program} {loose : List Str} {Xt : Shared → Bool} {XP : (Str → Option Value) → Heap → Prop} {α : Type} {Yf : Shared → α} {Ya : World → α} {YP : World → Heap → Prop} {d : DefRec} {kwd : List (Str × PySem.Expr)} {N : Nat}
   (left : ∀ w, (ends theRow.row.prog w N).1.map (fun s => (openSeen q loose (importedModules theRow.row.prog.main.body) Xt true s, Yf s)) = some (openGood q loose, Ya w)) (hY : ∀ w s, Yf s = Ya w → YP w s.heap) (hYk : ∀ w h h', YP w h → (∀ b o, h.get? b = some o → h'.get? b = some o) → YP w h')
   (hX : ∀ s, Xt s = true → XP (s.heap.nsMap mainGlobals) s.heap) (hXk : ∀ mg h h', XP mg h → (∀ b o, h.get? b = some o → h'.get? b = some o) → XP mg h')
   (hdef : defOf q theRow.row.name = some (d, kwd)) (hp : theRow.row.prog.theDef theRow.row.name = some (d.params, d.body, d.scope)) (hk : kwWritten? d.params.kwonlyargs d.params.kw_defaults = some kwd) (hRf : ∀ s, Xt s = true → RecFacts theRow.row.records s.heap) (hwr : (!theRow.row.writes || theRow.row.records.isEmpty) = true)
   (k1 : True) (ok : (chainsOk q && opensWell theRow.row.prog && (frees theRow.row.toRowW && theRow.row.within.isEmpty)) = true) (hb : theRow.row.prog.bare) (hw : theRow.row.toRowW.promised)
   (call : WalkC q loose XP YP theRow.row.toRowW d kwd fun f vs => PySem.call f vs) : theRow.row.Holds := by
 replace left := fun w => (congrArg (Option.map _) (ends theRow.row.prog w N).2).trans (left w)
 refine ⟨row_well, hw, openC (r := theRow.row.toRowW) (run := fun f vs => PySem.call f vs) (tree := fun vs => do match ← nsGet mainNs theRow.row.name with
     | some f => do ret (← PySem.call f vs)
     | none => unsupported "claim.caller:no-such-global") left hY hYk hX hXk hRf hwr ok hb hw
   (fun vs w s mg f Q E hg hf h => wpC_bind (wpC_of (wpAny_nsGet hg (by rw [hf]; exact wpC_bind (wpC_mono h (fun zz zz x => wpC_pure x) fun zz zz x => x)))))
   (fun w s hg G n hn => ?_) fun w s₀ s₁ mg mb G Y args vs as hpre hlay L low => ?_⟩
 · obtain rfl : n = theRow.row.name := by split at hn <;> simp_all
   exact pinned_of_view hg G hdef hp hk
 · obtain ⟨a, o, pm, cd, doc, dV, kV, h1, h2, h3, h4, h5⟩ := G.fn hdef
   exact ⟨.ref a, h1, call w s₀ s₁ mg mb G Y a o pm cd doc dV kV h2 h3 h4 h5 (defOf_name hdef ▸ h1) L.gens args vs as hpre hlay L.reads L.well (L.low low)⟩
end
section
open PySem PySem.W PySem.Calls PyProof.Rows
namespace Mine
set_option maxHeartbeats 8000000
open_top hd for PySem.Challenge.rw_ta0026_01.row
end Mine
end
section
open PySem PySem.W PySem.Calls PyProof.Rows
namespace Mine
noncomputable abbrev PG : Program := PySem.Challenge.rw_ta0026_01.row.toRowW.prog
noncomputable abbrev KF (w : World) : Frag := hd.heap_1 w.params
noncomputable abbrev tbs : List (Addr × Addr) := [(143, 141), (41, 37), (34, 30), (148, 146)]
noncomputable abbrev tb : List Addr := [141, 37, 30, 146]
noncomputable abbrev tq : List (Addr × Str) := [(141, "_law_found.<locals>.<lambda>"), (37, "_digits2int.<locals>.inner"), (30, "_int2digits.<locals>.inner"), (146, "law.<locals>.<lambda>")]
noncomputable def TabsOk (h : Heap) : Prop := ∀ q ∈ tq, ∃ ps, h.get? q.1 = some (tabObj ps) ∧ TriplesOk ps.toList ∧ ∀ pos cv, codeAmong pos ps.toList = some cv → h.CodeRec cv q.2
noncomputable def Old (T : List Addr) (h h' : Heap) : Prop := ∀ b o, b ∉ T → h.get? b = some o → h'.get? b = some o
theorem Old.refl {T : List Addr} {h : Heap} : Old T h h := fun zz zz zz e => e
theorem Old.trans {T : List Addr} {h h' h'' : Heap} (x : Old T h h') (y : Old T h' h'') : Old T h h'' := fun b o n e => y b o n (x b o n e)
theorem Old.of {T : List Addr} {h h' : Heap} (k : ∀ b o, h.get? b = some o → h'.get? b = some o) : Old T h h' := fun b o zz e => k b o e
theorem Old.push {T : List Addr} {h : Heap} (o : Obj) : Old T h (h.push o) := .of fun zz zz e => Heap.get?_push_of_some o e
inductive P where
 | none | bool (b : Bool) | int (i : Int) | str (s : Str) | tup (xs : List P) | lst (xs : List P) | raw (v : Value)
mutual
noncomputable def PV (ok : Addr → Prop) (h : Heap) : P → Value → Prop
 | .none, v => v = .none
 | .bool b, v => v = .bool b
 | .int i, v => ∃ t, v = .int i t
 | .str s, v => ∃ t, v = .str s t
 | .tup xs, v => ∃ a ys, v = .ref a ∧ IsTup h a (List.toArray ys) ∧ PVs ok h xs ys
 | .lst xs, v => ∃ a ys, v = .ref a ∧ ok a ∧ h.IsList a (List.toArray ys) ∧ PVs ok h xs ys
 | .raw w, v => v = w
noncomputable def PVs (ok : Addr → Prop) (h : Heap) : List P → List Value → Prop
 | [], ys => ys = []
 | x :: xs, ys => ∃ y r, ys = y :: r ∧ PV ok h x y ∧ PVs ok h xs r
end
mutual
theorem PV.mono {ok ok' : Addr → Prop} {h h' : Heap} (hk : ∀ b o, h.get? b = some o → (∃ vs n, o.data = .seq vs n) → (o.cls = .type "tuple" ∨ (o.cls = .type "list" ∧ ok b)) → h'.get? b = some o) (hok : ∀ b o, h.get? b = some o → ok b → ok' b) : ∀ {p : P} {v : Value}, PV ok h p v → PV ok' h' p v
 | .none, _, e => e
 | .bool _, _, e => e
 | .int _, _, e => e
 | .str _, _, e => e
 | .tup xs, _, e => by
   simp only [PV] at e ⊢
   obtain ⟨a, ys, rfl, ⟨o, ho, hc, hd⟩, q⟩ := e
   exact ⟨a, ys, rfl, ⟨o, hk _ _ ho (let ⟨n, e⟩ := hd; ⟨_, n, e⟩) (.inl hc), hc, hd⟩, PVs.mono hk hok q⟩
 | .lst xs, _, e => by
   simp only [PV] at e ⊢
   obtain ⟨a, ys, rfl, ka, ⟨o, ho, hc, hd⟩, q⟩ := e
   exact ⟨a, ys, rfl, hok _ _ ho ka, ⟨o, hk _ _ ho (let ⟨n, e⟩ := hd; ⟨_, n, e⟩) (.inr ⟨hc, ka⟩), hc, hd⟩, PVs.mono hk hok q⟩
 | .raw _, _, e => e
theorem PVs.mono {ok ok' : Addr → Prop} {h h' : Heap} (hk : ∀ b o, h.get? b = some o → (∃ vs n, o.data = .seq vs n) → (o.cls = .type "tuple" ∨ (o.cls = .type "list" ∧ ok b)) → h'.get? b = some o) (hok : ∀ b o, h.get? b = some o → ok b → ok' b) : ∀ {p : List P} {v : List Value}, PVs ok h p v → PVs ok' h' p v
 | [], _, e => e
 | _ :: _, _, e => by
   simp only [PVs] at e ⊢
   obtain ⟨y, r, rfl, q, q'⟩ := e
   exact ⟨y, r, rfl, PV.mono hk hok q, PVs.mono hk hok q'⟩
end
theorem tab_cls {h : Heap} (T : TabsOk h) {b : Addr} {o : Obj} (hb : b ∈ tb) (e : h.get? b = some o) : o.cls = .none := by
 have key : ∀ q ∈ tq, b = q.1 → o.cls = .none := fun q hq hbq => by
   obtain ⟨ps, hp, _⟩ := T q hq
   rw [← hbq, e] at hp
   obtain rfl := sij hp
   rfl
 simp only [tb, List.mem_cons, List.not_mem_nil, or_false] at hb
 rcases hb with rfl | rfl | rfl | rfl
 · exact key _ (.head _) rfl
 · exact key _ (.tail _ (.head _)) rfl
 · exact key _ (.tail _ (.tail _ (.head _))) rfl
 · exact key _ (.tail _ (.tail _ (.tail _ (.head _)))) rfl
theorem Old.cls {h h' : Heap} (x : Old tb h h') (T : TabsOk h) {b : Addr} {o : Obj} (e : h.get? b = some o) (hc : o.cls ≠ .none) : h'.get? b = some o :=
 x b o (fun hb => hc (tab_cls T hb e)) e
theorem PV.old {ok : Addr → Prop} {h h' : Heap} (x : Old tb h h') (T : TabsOk h) {p : P} {v : Value} (e : PV ok h p v) : PV ok h' p v :=
 e.mono (fun b o e zz hc => x.cls T e (by rcases hc with hc | ⟨hc, _⟩ <;> rw [hc] <;> nofun)) fun zz zz zz k => k
theorem PVs.old {ok : Addr → Prop} {h h' : Heap} (x : Old tb h h') (T : TabsOk h) {p : List P} {v : List Value} (e : PVs ok h p v) : PVs ok h' p v :=
 e.mono (fun b o e zz hc => x.cls T e (by rcases hc with hc | ⟨hc, _⟩ <;> rw [hc] <;> nofun)) fun zz zz zz k => k
structure Ky where
 a : Addr
 n : Nat
 kap : List P → Option P
 on : Bool
 lst : Addr
 kam : List P → List P → Option (List P)
noncomputable def Ky.no : Ky := ⟨0, 0, fun zz => none, false, 0, fun zz zz => none⟩
structure Gd where
 w : World
 mg : Str → Option Value
 mb : Str → Option Value
 h₀ : Heap
 ky : Ky
structure Gd.at (G : Gd) (h : Heap) : Prop where
 stay : ∀ b o, G.h₀.get? b = some o → h.get? b = some o
 tabs : TabsOk h
structure Rm (n : Nat) (A : Around) : Prop where
 hd : A.handled = none
 dp : A.depth + n < recursionLimit
 un : A.units + 10 * n < cLine
noncomputable def NoE : Value → Shared → Prop := fun zz zz => False
noncomputable def Gd.KeyAt (G : Gd) : Prop :=
 ∀ (s : Shared) (A : Around) (ps : List P) (ys : List Value) (r : P) (Q : Value → Shared → Prop), G.at s.heap → Rm G.ky.n A → PVs (fun zz => True) s.heap ps ys → G.ky.kap ps = some r →
   (∀ y h' tk, PV (fun b => s.heap.objs.size ≤ b) h' r y → Old tb s.heap h' → G.at h' → Q y { s with heap := h', toks := tk }) → wpAny (model PG G.w) A (call (.ref G.ky.a) ys) Q NoE s
noncomputable def Gd.KamAt (G : Gd) : Prop :=
 ∀ (s : Shared) (A : Around) (ps : List P) (ys : List Value) (xs : List P) (us : List Value) (n : Nat) (xs' : List P) (Q : Value → Shared → Prop), G.ky.on = true → G.at s.heap → Rm G.ky.n A → PVs (· ≠ G.ky.lst) s.heap ps ys →
   s.heap.get? G.ky.lst = some (W.listOf (List.toArray us) n) → PVs (· ≠ G.ky.lst) s.heap xs us → G.ky.kam ps xs = some xs' →
   (∀ h' tk us' n', Old (G.ky.lst :: tb) s.heap h' → h'.get? G.ky.lst = some (W.listOf (List.toArray us') n') → PVs (· ≠ G.ky.lst) h' xs' us' → G.at h' → Q .none { s with heap := h', toks := tk }) → wpAny (model PG G.w) A (call (.ref G.ky.a) ys) Q NoE s
structure Gd.Ok (G : Gd) : Prop where
 X : (KF G.w).In G.h₀
 g : G.h₀.Ns mainGlobals G.mg
 b : G.h₀.Ns builtinsNs G.mb
 bl : ∀ x : Str, x ≠ "__name__" → G.mb x = bootBuiltins x
 nolimit : G.h₀.NoLimit
 nodigits : ∃ mc, G.h₀.Ns cStatics mc ∧ mc "sys.int_max_str_digits" = none
 bmain : ∃ bm ob, G.mg "__builtins__" = some (.ref bm) ∧ bm ≠ builtinsNs ∧ G.h₀.get? bm = some ob ∧ ob.cls = .type "module" ∧ ob.dict = some builtinsNs ∧ ob.data = .plain
 code : CodeAll tbs G.h₀
 notab : ∀ t ∈ tb, G.h₀.get? t = none
 key : G.KeyAt
 kam : G.KamAt
 fo : ((∃ ps r, G.ky.kap ps = some r) ∨ G.ky.on = true) → ∃ o fd, G.h₀.get? G.ky.a = some o ∧ o.data = .func fd
inductive V where
 | p (x : P) | own (i : Nat)
noncomputable def VR (h : Heap) (ow : List Addr) : V → Value → Prop
 | .p x, v => PV (· ∉ ow) h x v
 | .own i, v => ∃ a, ow[i]? = some a ∧ v = .ref a
theorem VR.old {h h' : Heap} {ow : List Addr} (x : Old tb h h') (T : TabsOk h) : ∀ {v : V} {y : Value}, VR h ow v y → VR h' ow v y
 | .p _, _, e => PV.old x T e
 | .own _, _, e => e
structure St where
 vals : List (Option V)
 own : List (List P)
 ky : Ky
structure Fi where
 cn : Str
 cs : Scope
 L : Addr
 fr : Addr
 fu : Option Addr
 ccd : Value
 cl : List (Str × Addr)
noncomputable abbrev Fi.env (Γ : Fi) : Env :=
 { scope := Γ.cs, locals := Γ.L, globals := mainGlobals, cells := Γ.cl, qual := Γ.cn ++ ".<locals>.", func := Γ.fu, code := Γ.ccd, frame := some Γ.fr, builtins := builtinsNs }
noncomputable def Ft (Γ : Fi) (ow : List Addr) (b : Addr) : Prop := b = Γ.L ∨ b ∈ ow ∨ b ∈ tb ∨ ∃ x, Γ.cs.names.lookup x = some .cell ∧ Γ.cl.lookup x = some b
noncomputable def OwnAt (h : Heap) (ow : List Addr) (own : List (List P)) : Prop :=
 ∀ (i : Nat) a xs, ow[i]? = some a → own[i]? = some xs → ∃ ys n, h.get? a = some (W.listOf (List.toArray ys) n) ∧ PVs (· ∉ ow) h xs ys
structure Rp (G : Gd) (Γ : Fi) (mu : List Addr) (s₀ : Shared) (σ : St) (ow : List Addr) (s : Shared) : Prop where
 sh : ∃ h tk, s = { s₀ with heap := h, toks := tk }
 ok : G.at s.heap
 old : Old (tb ++ mu) s₀.heap s.heap
 m : ∃ m, s.heap.Ns Γ.L m ∧ ∀ (i : Nat) x v, Γ.cs.names[i]? = some (x, .local) → σ.vals[i]? = some (some v) → ∃ y, m x = some y ∧ VR s.heap ow v y
 c : ∀ (i : Nat) x k v, Γ.cs.names[i]? = some (x, k) → (k = .cell ∨ k = .free) → σ.vals[i]? = some (some v) → ∃ c y, Γ.cl.lookup x = some c ∧ s.heap.IsCell c (some y) ∧ VR s.heap ow v y
 cells : ∀ x c, Γ.cl.lookup x = some c → ∃ v₀, s.heap.IsCell c v₀
 own : OwnAt s.heap ow σ.own
 len : ow.length = σ.own.length
 nd : ow.Nodup
 owf : ∀ a ∈ ow, s₀.heap.objs.size ≤ a ∨ a ∈ mu
 ky : σ.ky = G.ky
 kl : G.ky.on = true → ow[0]? = some G.ky.lst
noncomputable def markOf (cs : Scope) : Option (Addr × Str) :=
 if (cs.names.lookup (Str.ofString "others")).isSome = true then some (143, Str.ofString "_law_found")
 else if (cs.names.lookup (Str.ofString "spoilt")).isSome = true then some (148, Str.ofString "law")
 else if cs.names.lookup (Str.ofString "a_digits") = some .cell then some (34, Str.ofString "_int2digits")
 else if cs.names.lookup (Str.ofString "digits") = some .cell then some (41, Str.ofString "_digits2int")
 else none
structure Fi.Ok (G : Gd) (Γ : Fi) (mu : List Addr) (h : Heap) : Prop where
 fn : Γ.cs.kind = .function
 nd : (Γ.cs.names.map (·.1)).Nodup
 L : h.objs.size ≤ Γ.L
 cf : ∀ x c, Γ.cs.names.lookup x = some .cell → Γ.cl.lookup x = some c → h.objs.size ≤ c
 cc : ∀ x, Γ.cs.names.lookup x = some .cell → ∃ c, Γ.cl.lookup x = some c
 cd : ∀ x y c, Γ.cl.lookup x = some c → Γ.cl.lookup y = some c → x = y
 g0 : ∀ b o, G.h₀.get? b = some o → b < h.objs.size ∧ b ∉ mu
 mu : ∀ a ∈ mu, a < h.objs.size
 mark : ∀ c q, markOf Γ.cs = some (c, q) → Γ.ccd = .ref c ∧ Γ.cn = q
structure RmG (n : Nat) (Γ : Fi) (A : Around) : Prop extends Rm n A where
 fr : markOf Γ.cs = some (148, Str.ofString "law") → A.frames = some [Γ.env] ∧ Γ.fr = Γ.L
theorem RmG.of {n : Nat} {Γ : Fi} {A : Around} (x : Rm n A) (h : markOf Γ.cs ≠ some (148, Str.ofString "law")) : RmG n Γ A := ⟨x, fun e => absurd e h⟩
noncomputable def ES (rm : Nat) (cs : Scope) (e : PySem.Expr) (f : St → Option V) : Prop :=
 ∀ (G : Gd) (Γ : Fi) (mu : List Addr) (s₀ : Shared) (σ : St) (ow : List Addr) (s : Shared) (v : V) (A : Around) (Q : Value → Shared → Prop),
   G.Ok → Γ.Ok G mu s₀.heap → Γ.cs = cs → f σ = some v → Rp G Γ mu s₀ σ ow s → RmG rm Γ A →
   (∀ x s', VR s'.heap ow v x → Rp G Γ mu s₀ σ ow s' → Old tb s.heap s'.heap → Q x s') →
   wpAny (model PG G.w) A (eval e Γ.env) Q NoE s
theorem tab_data {h : Heap} (T : TabsOk h) {b : Addr} {o : Obj} (hb : b ∈ tb) (e : h.get? b = some o) : ∃ vs, o.data = .fields vs := by
 have key : ∀ q ∈ tq, b = q.1 → ∃ vs, o.data = .fields vs := fun q hq hbq => by
   obtain ⟨ps, hp, _⟩ := T q hq
   rw [← hbq, e] at hp
   obtain rfl := sij hp
   exact ⟨_, rfl⟩
 simp only [tb, List.mem_cons, List.not_mem_nil, or_false] at hb
 rcases hb with rfl | rfl | rfl | rfl
 · exact key _ (.head _) rfl
 · exact key _ (.tail _ (.head _)) rfl
 · exact key _ (.tail _ (.tail _ (.head _))) rfl
 · exact key _ (.tail _ (.tail _ (.tail _ (.head _)))) rfl
theorem Old.data {h h' : Heap} (x : Old tb h h') (T : TabsOk h) {b : Addr} {o : Obj} (e : h.get? b = some o) (hd : ∀ vs, o.data ≠ .fields vs) : h'.get? b = some o :=
 x b o (fun hb => let ⟨vs, q⟩ := tab_data T hb e; hd vs q) e
theorem Old.ns {h h' : Heap} (x : Old tb h h') (T : TabsOk h) {a : Addr} {m} (n : h.Ns a m) : h'.Ns a m :=
 let ⟨o, es, ep, e, hd, r⟩ := n; ⟨o, es, ep, x.data T e (by rw [hd]; nofun), hd, r⟩
theorem Old.cell {h h' : Heap} (x : Old tb h h') (T : TabsOk h) {a : Addr} {v} (n : h.IsCell a v) : h'.IsCell a v :=
 let ⟨o, e, hd⟩ := n; ⟨o, x.data T e (by rw [hd]; nofun), hd⟩
theorem Old.list {h h' : Heap} (x : Old tb h h') (T : TabsOk h) {a : Addr} {v} (n : h.IsList a v) : h'.IsList a v :=
 let ⟨o, e, hc, r⟩ := n; ⟨o, x.cls T e (by rw [hc]; nofun), hc, r⟩
theorem Old.tup {h h' : Heap} (x : Old tb h h') (T : TabsOk h) {a : Addr} {v} (n : IsTup h a v) : IsTup h' a v :=
 let ⟨o, e, hc, r⟩ := n; ⟨o, x.cls T e (by rw [hc]; nofun), hc, r⟩
theorem Old.size {T : List Addr} {h h' : Heap} (x : Old tb h h') : True := trivial
section
variable {G : Gd} {Γ : Fi} {mu : List Addr} {s₀ s : Shared} {σ : St} {ow : List Addr} {rm : Nat} {cs : Scope}
theorem Rp.step (R : Rp G Γ mu s₀ σ ow s) {h' : Heap} (tk : Nat) (old : Old tb s.heap h') (ok : G.at h') : Rp G Γ mu s₀ σ ow { s with heap := h', toks := tk } where
 sh := let ⟨h, t, e⟩ := R.sh; ⟨h', tk, by rw [e]⟩
 ok := ok
 old := R.old.trans fun b o n e => old b o (fun q => n (List.mem_append_left _ q)) e
 m := let ⟨m, hn, hm⟩ := R.m; ⟨m, old.ns R.ok.tabs hn, fun i x v a b => let ⟨y, e, r⟩ := hm i x v a b; ⟨y, e, r.old old R.ok.tabs⟩⟩
 c := fun i x k v a b c => let ⟨c, y, e, q, r⟩ := R.c i x k v a b c; ⟨c, y, e, old.cell R.ok.tabs q, r.old old R.ok.tabs⟩
 cells := fun x c e => let ⟨v, q⟩ := R.cells x c e; ⟨v, old.cell R.ok.tabs q⟩
 own := fun i a xs e1 e2 => let ⟨ys, n, q, r⟩ := R.own i a xs e1 e2; ⟨ys, n, old.cls R.ok.tabs q nofun, r.old old R.ok.tabs⟩
 len := R.len
 nd := R.nd
 owf := R.owf
 ky := R.ky
 kl := R.kl
theorem Rp.tok (R : Rp G Γ mu s₀ σ ow s) (tk : Nat) : Rp G Γ mu s₀ σ ow { s with toks := tk } := R.step tk .refl R.ok
theorem Gd.at.push (x : G.at s.heap) (o : Obj) : G.at (s.heap.push o) where
 stay := fun b o' e => Heap.get?_push_of_some o (x.stay b o' e)
 tabs := fun q hq => let ⟨ps, e, t, c⟩ := x.tabs q hq; ⟨ps, Heap.get?_push_of_some o e, t, fun pos cv hc => (c pos cv hc).push o⟩
theorem Rp.ow_lt (R : Rp G Γ mu s₀ σ ow s) : ∀ a ∈ ow, a < s.heap.objs.size := fun a ha => by
 obtain ⟨i, hi, rfl⟩ := List.getElem_of_mem ha
 have hl : i < σ.own.length := R.len ▸ hi
 obtain ⟨ys, n, e, _⟩ := R.own i ow[i] σ.own[i] (by simp [hi]) (by simp [hl])
 exact Heap.lt_size e
theorem Rp.fresh (R : Rp G Γ mu s₀ σ ow s) : s.heap.objs.size ∉ ow := fun h => absurd (R.ow_lt _ h) (Nat.lt_irrefl _)
theorem lookup_of_nth : ∀ {l : List (Str × NameKind)} {i : Nat} {x : Str} {k : NameKind}, (l.map (·.1)).Nodup → l[i]? = some (x, k) → l.lookup x = some k
 | [], _, _, _, _, e => by simp at e
 | (y, k') :: l, 0, x, k, _, e => by
   simp only [List.getElem?_cons_zero, Option.some.injEq, Prod.mk.injEq] at e
   obtain ⟨rfl, rfl⟩ := e
   simp [List.lookup_cons]
 | (y, k') :: l, i + 1, x, k, nd, e => by
   simp only [List.getElem?_cons_succ] at e
   have hm : x ∈ l.map (·.1) := List.mem_map.mpr ⟨(x, k), List.mem_of_getElem? e, rfl⟩
   simp only [List.map_cons, List.nodup_cons] at nd
   have hne : (x == y) = false := beq_eq_false_iff_ne.mpr fun q => nd.1 (q ▸ hm)
   rw [List.lookup_cons, hne]
   exact lookup_of_nth nd.2 e
theorem Fi.Ok.kind {h : Heap} (O : Γ.Ok G mu h) {i : Nat} {x : Str} {k : NameKind} (e : Γ.cs.names[i]? = some (x, k)) : Γ.env.kindOf x = some k := lookup_of_nth O.nd e
theorem Fi.Ok.kd {h : Heap} (O : Γ.Ok G mu h) {i : Nat} {x : Str} {k : NameKind} (e : Γ.cs.names[i]? = some (x, k)) : Γ.cs.names.lookup x = some k := lookup_of_nth O.nd e
end
noncomputable def cK (p : P) : St → Option V := fun zz => some (.p p)
noncomputable def cV (i : Nat) : St → Option V := fun σ => (σ.vals[i]?).join
noncomputable def lift1 (op : P → Option P) (f : St → Option V) : St → Option V := fun σ => match f σ with
 | some (.p a) => (op a).map .p
 | _ => none
noncomputable def lift2 (op : P → P → Option P) (f g : St → Option V) : St → Option V := fun σ => match f σ, g σ with
 | some (.p a), some (.p b) => (op a b).map .p
 | _, _ => none
section
variable {rm : Nat} {cs : Scope}
theorem ES_int {i : Int} {k : Nat} {pos : Pos} : ES rm cs (.Constant (.int i) k pos) (cK (.int i)) := fun G Γ mu s₀ σ ow s v A Q zz zz zz hf R zz hQ => by
 obtain rfl := sij hf
 exact wpAny_Constant_int (hQ _ _ ⟨_, rfl⟩ (R.tok _) .refl)
theorem ES_str {x : Str} {k : Nat} {pos : Pos} : ES rm cs (.Constant (.str x) k pos) (cK (.str x)) := fun G Γ mu s₀ σ ow s v A Q zz zz zz hf R zz hQ => by
 obtain rfl := sij hf
 exact Calls.Constant_str (hQ _ _ ⟨_, rfl⟩ (R.tok _) .refl)
theorem ES_none {k : Nat} {pos : Pos} : ES rm cs (.Constant .none k pos) (cK .none) := fun G Γ mu s₀ σ ow s v A Q zz zz zz hf R zz hQ => by
 obtain rfl := sij hf
 exact wpAny_Constant_none (hQ _ _ rfl R .refl)
theorem ES_bool {b : Bool} {k : Nat} {pos : Pos} : ES rm cs (.Constant (.bool b) k pos) (cK (.bool b)) := fun G Γ mu s₀ σ ow s v A Q zz zz zz hf R zz hQ => by
 obtain rfl := sij hf
 exact wpAny_Constant_bool (hQ _ _ rfl R .refl)
theorem join_some {α : Type} {o : Option (Option α)} {v : α} (h : o.join = some v) : o = some (some v) := by
 cases o with
 | none => cases h
 | some o => cases o with
   | none => cases h
   | some o => obtain rfl := sij h; rfl
theorem loadName_of {G : Gd} {Γ : Fi} {mu : List Addr} {s₀ s : Shared} {σ : St} {ow : List Addr} {A : Around} {Q : Value → Shared → Prop} {E} {v : V} (i : Nat) {x : Str} {k : NameKind} (hΓ : Γ.Ok G mu s₀.heap) (hx : Γ.cs.names[i]? = some (x, k)) (hk : k = .local ∨ k = .cell ∨ k = .free)
   (hn : (x == ("__classdict__" : Str)) = false) (hf : σ.vals[i]? = some (some v)) (R : Rp G Γ mu s₀ σ ow s) (hQ : ∀ y, VR s.heap ow v y → Q y s) : wpAny (model PG G.w) A (loadName Γ.env x) Q E s := by
 rcases hk with rfl | rfl | rfl
 · refine wg fun P' bk => ?_
   obtain ⟨m, hm, h⟩ := R.m
   obtain ⟨y, e, r⟩ := h i x v hx hf
   refine bk ?_
   exact wpAny_loadName_local hΓ.fn (hΓ.kind hx) hm e (hQ _ r)
 · refine wg fun P' bk => ?_
   obtain ⟨c, y, e, q, r⟩ := R.c i x _ v hx (.inl rfl) hf
   refine bk ?_
   exact wpAny_loadName_cell hΓ.fn (hΓ.kind hx) e q (hQ _ r)
 · refine wg fun P' bk => ?_
   obtain ⟨c, y, e, q, r⟩ := R.c i x _ v hx (.inr rfl) hf
   refine bk ?_
   exact wpAny_loadName_free hΓ.fn (hΓ.kind hx) e q (hQ _ r) hn
noncomputable def okName (x : Str) : Bool := !(x == ("__debug__" : Str)) && !(x == ("__classdict__" : Str))
theorem ES_var (i : Nat) {x : Str} {k : NameKind} {pos : Pos} (hx : cs.names[i]? = some (x, k)) (hk : k = .local ∨ k = .cell ∨ k = .free) (hn : okName x = true) : ES rm cs (.Name x pos) (cV i) := fun G Γ mu s₀ σ ow s v A Q zz hΓ hc hf R zz hQ => by
 subst hc
 simp only [okName, Bool.and_eq_true, Bool.not_eq_true'] at hn
 exact wpAny_Name (loadName_of i hΓ hx hk hn.2 (join_some hf) R fun y r => hQ y s r R .refl) hn.1
noncomputable def Op2 (rm : Nat) (t : Value → Value → Sem Value) (op : P → P → Option P) : Prop :=
 ∀ (G : Gd) (ok : Addr → Prop) (s : Shared) (a b r : P) (x y : Value) (A : Around) (Q : Value → Shared → Prop), G.Ok → G.at s.heap → Rm rm A → (∀ c, s.heap.objs.size ≤ c → ok c) → PV ok s.heap a x → PV ok s.heap b y → op a b = some r →
   (∀ z h' tk, PV ok h' r z → Old tb s.heap h' → G.at h' → Q z { s with heap := h', toks := tk }) → wpAny (model PG G.w) A (t x y) Q NoE s
noncomputable def Op1 (rm : Nat) (t : Value → Sem Value) (op : P → Option P) : Prop :=
 ∀ (G : Gd) (ok : Addr → Prop) (s : Shared) (a r : P) (x : Value) (A : Around) (Q : Value → Shared → Prop), G.Ok → G.at s.heap → Rm rm A → (∀ c, s.heap.objs.size ≤ c → ok c) → PV ok s.heap a x → op a = some r →
   (∀ z h' tk, PV ok h' r z → Old tb s.heap h' → G.at h' → Q z { s with heap := h', toks := tk }) → wpAny (model PG G.w) A (t x) Q NoE s
theorem lift2_some {op : P → P → Option P} {f g : St → Option V} {σ : St} {v : V} (h : lift2 op f g σ = some v) : ∃ a b r, f σ = some (.p a) ∧ g σ = some (.p b) ∧ op a b = some r ∧ v = .p r := by
 unfold lift2 at h
 split at h
 · rename_i a b ha hb
   obtain ⟨r, hr, rfl⟩ := Option.map_eq_some_iff.mp h
   exact ⟨a, b, r, ha, hb, hr, rfl⟩
 · cases h
theorem lift1_some {op : P → Option P} {f : St → Option V} {σ : St} {v : V} (h : lift1 op f σ = some v) : ∃ a r, f σ = some (.p a) ∧ op a = some r ∧ v = .p r := by
 unfold lift1 at h
 split at h
 · rename_i a ha
   obtain ⟨r, hr, rfl⟩ := Option.map_eq_some_iff.mp h
   exact ⟨a, r, ha, hr, rfl⟩
 · cases h
theorem two_parts {G : Gd} {Γ : Fi} {mu : List Addr} {s₀ s : Shared} {σ : St} {ow : List Addr} {A : Around} {v : V} {Q : Value → Shared → Prop} {l r : PySem.Expr} {f g : St → Option V} {op : P → P → Option P} {t : Value → Value → Sem Value}
   (hl : ES rm cs l f) (hr : ES rm cs r g) (ho : Op2 rm t op) (hG : G.Ok) (hΓ : Γ.Ok G mu s₀.heap) (hc : Γ.cs = cs) (hf : lift2 op f g σ = some v) (R : Rp G Γ mu s₀ σ ow s) (hm : RmG rm Γ A)
   (hQ : ∀ x s', VR s'.heap ow v x → Rp G Γ mu s₀ σ ow s' → Old tb s.heap s'.heap → Q x s') :
   wpAny (model PG G.w) A (eval l Γ.env) (fun a s₁ => wpAny (model PG G.w) A (eval r Γ.env) (fun b s₂ => wpAny (model PG G.w) A (t a b) Q NoE s₂) NoE s₁) NoE s := by
 refine wg fun P' bk => ?_
 obtain ⟨a, b, z, ha, hb, hz, rfl⟩ := lift2_some hf
 refine bk ?_
 refine hl G Γ mu s₀ σ ow s _ A _ hG hΓ hc ha R hm fun x s₁ vx R₁ o₁ => ?_
 refine hr G Γ mu s₀ σ ow s₁ _ A _ hG hΓ hc hb R₁ hm fun y s₂ vy R₂ o₂ => ?_
 refine ho G _ s₂ a b z x y A Q hG R₂.ok hm.toRm (fun c hc hm => absurd (R₂.ow_lt c hm) (Nat.not_lt.mpr hc)) (PV.old o₂ R₁.ok.tabs vx) vy hz fun w h' tk vw o₃ ok₃ => ?_
 exact hQ w _ vw (R₂.step tk o₃ ok₃) ((o₁.trans o₂).trans o₃)
theorem ES_bin {l r : PySem.Expr} {pos : Pos} {o : Operator} {f g : St → Option V} {op : P → P → Option P} (hl : ES rm cs l f) (hr : ES rm cs r g) (ho : Op2 rm (binaryOp o) op) : ES rm cs (.BinOp l o r pos) (lift2 op f g) :=
 fun zz zz zz zz zz zz zz zz zz zz hG hΓ hc hf R hm hQ => wpAny_BinOp (two_parts hl hr ho hG hΓ hc hf R hm hQ)
theorem ES_cmp {l r : PySem.Expr} {pos : Pos} {o : CmpOp} {f g : St → Option V} {op : P → P → Option P} (hl : ES rm cs l f) (hr : ES rm cs r g) (ho : Op2 rm (compareOp o) op) (hb : behindInMarks o r = false) : ES rm cs (.Compare l [o] [r] pos) (lift2 op f g) :=
 fun zz zz zz zz zz zz zz zz zz zz hG hΓ hc hf R hm hQ => wpAny_Compare1 (two_parts hl hr ho hG hΓ hc hf R hm hQ) hb
theorem ES_un {x : PySem.Expr} {pos : Pos} {o : UnaryOp} {f : St → Option V} {op : P → Option P} (hx : ES rm cs x f) (ho : Op1 rm (unaryOp o) op) : ES rm cs (.UnaryOp o x pos) (lift1 op f) :=
 fun G Γ mu s₀ σ ow s v A Q hG hΓ hc hf R hm hQ => by
 refine wg fun P' bk => ?_
 obtain ⟨a, z, ha, hz, rfl⟩ := lift1_some hf
 refine bk ?_
 refine wpAny_UnaryOp (hx G Γ mu s₀ σ ow s _ A _ hG hΓ hc ha R hm fun x s₁ vx R₁ o₁ => ?_)
 exact ho G _ s₁ a z x A Q hG R₁.ok hm.toRm (fun c hc hm => absurd (R₁.ow_lt c hm) (Nat.not_lt.mpr hc)) vx hz fun w h' tk vw o₃ ok₃ => hQ w _ vw (R₁.step tk o₃ ok₃) (o₁.trans o₃)
end
theorem nn {α : Type} {r : α} {C : Prop} (h : (none : Option α) = some r) : C := by cases h
theorem ifS {α : Type} {c : Prop} [Decidable c] {a : Option α} {r : α} (h : (if c then a else none) = some r) : c ∧ a = some r := Option.ite_none_right_eq_some.mp h
theorem zr {α : Type} : (none : Option α) = none := rfl
theorem zn {α β : Type} : ∀ _ : β, (none : Option α) = none := fun _ => rfl
theorem zm {α β γ : Type} : ∀ (_ : β) (_ : γ), (none : Option α) = none := fun _ _ => rfl
theorem zx {α : Type} {o : Option α} {r : α} {C : Prop} (h : o = some r) (e : o = none) : C := nn (e.symm.trans h)
theorem eO {α β : Type} {F : Option β → Option α} {o : Option β} {r : α} {C : Prop} (h : F o = some r) (h0 : F none = none) (k : ∀ a, o = some a → F (some a) = some r → C) : C := by
 cases o with
 | none => exact zx h h0
 | some a => exact k a rfl h
theorem eC {α β : Type} {F : List β → Option α} {o : List β} {r : α} {C : Prop} (h : F o = some r) (h0 : F [] = none) (k : ∀ a l, o = a :: l → F (a :: l) = some r → C) : C := by
 cases o with
 | nil => exact zx h h0
 | cons a l => exact k a l rfl h
theorem eN {α β : Type} {F : List β → Option α} {o : List β} {r : α} {C : Prop} (h : F o = some r) (h0 : ∀ a l, F (a :: l) = none) (k : o = [] → F [] = some r → C) : C := by
 cases o with
 | nil => exact k rfl h
 | cons a l => exact zx h (h0 a l)
theorem eV {α : Type} {F : V → Option α} {o : V} {r : α} {C : Prop} (h : F o = some r) (h0 : ∀ i, F (.own i) = none) (k : ∀ x, o = .p x → F (.p x) = some r → C) : C := by
 cases o with
 | own i => exact zx h (h0 i)
 | p x => exact k x rfl h
theorem eJ {α : Type} {F : V → Option α} {o : V} {r : α} {C : Prop} (h : F o = some r) (h0 : ∀ x, F (.p x) = none) (k : ∀ i, o = .own i → F (.own i) = some r → C) : C := by
 cases o with
 | p x => exact zx h (h0 x)
 | own i => exact k i rfl h
theorem eI {α : Type} {F : P → Option α} {o : P} {r : α} {C : Prop} (h : F o = some r) (h0 : F .none = none) (h1 : ∀ z0, F (.bool z0) = none) (h3 : ∀ z0, F (.str z0) = none) (h4 : ∀ z0, F (.tup z0) = none) (h5 : ∀ z0, F (.lst z0) = none) (h6 : ∀ z0, F (.raw z0) = none) (k : ∀ a, o = .int a → F (.int a) = some r → C) : C := by
 cases o with
 | none => exact zx h h0
 | bool z0 => exact zx h (h1 z0)
 | int a => exact k a rfl h
 | str z0 => exact zx h (h3 z0)
 | tup z0 => exact zx h (h4 z0)
 | lst z0 => exact zx h (h5 z0)
 | raw z0 => exact zx h (h6 z0)
theorem eS {α : Type} {F : P → Option α} {o : P} {r : α} {C : Prop} (h : F o = some r) (h0 : F .none = none) (h1 : ∀ z0, F (.bool z0) = none) (h2 : ∀ z0, F (.int z0) = none) (h4 : ∀ z0, F (.tup z0) = none) (h5 : ∀ z0, F (.lst z0) = none) (h6 : ∀ z0, F (.raw z0) = none) (k : ∀ a, o = .str a → F (.str a) = some r → C) : C := by
 cases o with
 | none => exact zx h h0
 | bool z0 => exact zx h (h1 z0)
 | int z0 => exact zx h (h2 z0)
 | str a => exact k a rfl h
 | tup z0 => exact zx h (h4 z0)
 | lst z0 => exact zx h (h5 z0)
 | raw z0 => exact zx h (h6 z0)
theorem eL {α : Type} {F : P → Option α} {o : P} {r : α} {C : Prop} (h : F o = some r) (h0 : F .none = none) (h1 : ∀ z0, F (.bool z0) = none) (h2 : ∀ z0, F (.int z0) = none) (h3 : ∀ z0, F (.str z0) = none) (h4 : ∀ z0, F (.tup z0) = none) (h6 : ∀ z0, F (.raw z0) = none) (k : ∀ a, o = .lst a → F (.lst a) = some r → C) : C := by
 cases o with
 | none => exact zx h h0
 | bool z0 => exact zx h (h1 z0)
 | int z0 => exact zx h (h2 z0)
 | str z0 => exact zx h (h3 z0)
 | tup z0 => exact zx h (h4 z0)
 | lst a => exact k a rfl h
 | raw z0 => exact zx h (h6 z0)
theorem eR {α : Type} {F : P → Option α} {o : P} {r : α} {C : Prop} (h : F o = some r) (h0 : F .none = none) (h1 : ∀ z0, F (.bool z0) = none) (h2 : ∀ z0, F (.int z0) = none) (h3 : ∀ z0, F (.str z0) = none) (h4 : ∀ z0, F (.tup z0) = none) (h5 : ∀ z0, F (.lst z0) = none) (k : ∀ a, o = .raw a → F (.raw a) = some r → C) : C := by
 cases o with
 | none => exact zx h h0
 | bool z0 => exact zx h (h1 z0)
 | int z0 => exact zx h (h2 z0)
 | str z0 => exact zx h (h3 z0)
 | tup z0 => exact zx h (h4 z0)
 | lst z0 => exact zx h (h5 z0)
 | raw a => exact k a rfl h
theorem eF {α : Type} {F : Value → Option α} {o : Value} {r : α} {C : Prop} (h : F o = some r) (h0 : F .none = none) (h1 : F .ellipsis = none) (h2 : F .notImplemented = none) (h3 : ∀ z0, F (.bool z0) = none) (h4 : ∀ z0 z1, F (.int z0 z1) = none) (h5 : ∀ z0 z1, F (.float z0 z1) = none) (h6 : ∀ z0 z1, F (.str z0 z1) = none) (h7 : ∀ z0 z1, F (.bytes z0 z1) = none) (h8 : ∀ z0, F (.type z0) = none) (h9 : ∀ z0, F (.builtin z0) = none) (k : ∀ a, o = .ref a → F (.ref a) = some r → C) : C := by
 cases o with
 | none => exact zx h h0
 | ellipsis => exact zx h h1
 | notImplemented => exact zx h h2
 | bool z0 => exact zx h (h3 z0)
 | int z0 z1 => exact zx h (h4 z0 z1)
 | float z0 z1 => exact zx h (h5 z0 z1)
 | str z0 z1 => exact zx h (h6 z0 z1)
 | bytes z0 z1 => exact zx h (h7 z0 z1)
 | type z0 => exact zx h (h8 z0)
 | builtin z0 => exact zx h (h9 z0)
 | ref a => exact k a rfl h
theorem eT {α : Type} {F : Value → Option α} {o : Value} {r : α} {C : Prop} (h : F o = some r) (h0 : F .none = none) (h1 : F .ellipsis = none) (h2 : F .notImplemented = none) (h3 : ∀ z0, F (.bool z0) = none) (h4 : ∀ z0 z1, F (.int z0 z1) = none) (h5 : ∀ z0 z1, F (.float z0 z1) = none) (h6 : ∀ z0 z1, F (.str z0 z1) = none) (h7 : ∀ z0 z1, F (.bytes z0 z1) = none) (h9 : ∀ z0, F (.builtin z0) = none) (h10 : ∀ z0, F (.ref z0) = none) (k : ∀ a, o = .type a → F (.type a) = some r → C) : C := by
 cases o with
 | none => exact zx h h0
 | ellipsis => exact zx h h1
 | notImplemented => exact zx h h2
 | bool z0 => exact zx h (h3 z0)
 | int z0 z1 => exact zx h (h4 z0 z1)
 | float z0 z1 => exact zx h (h5 z0 z1)
 | str z0 z1 => exact zx h (h6 z0 z1)
 | bytes z0 z1 => exact zx h (h7 z0 z1)
 | type a => exact k a rfl h
 | builtin z0 => exact zx h (h9 z0)
 | ref z0 => exact zx h (h10 z0)
noncomputable def addP : P → P → Option P
 | .int a, .int b => some (.int (a + b))
 | .str x, .str y => if x.length + y.length ≤ 1000 then some (.str (x ++ y)) else none
 | _, _ => none
noncomputable def iaddP : P → P → Option P
 | .int a, .int b => some (.int (a + b))
 | _, _ => none
noncomputable def imulP : P → P → Option P
 | .int a, .int b => if a.natAbs < 2 ^ 64 then some (.int (a * b)) else none
 | _, _ => none
noncomputable def subP : P → P → Option P
 | .int a, .int b => some (.int (a - b))
 | _, _ => none
noncomputable def mulP : P → P → Option P
 | .int a, .int b => if a.natAbs < 2 ^ 64 then some (.int (a * b)) else none
 | .str x, .int n => if x.length ≤ 1000 ∧ 0 ≤ n ∧ n ≤ 16 then some (.str (PySem.Txt.mul x n)) else none
 | _, _ => none
noncomputable def fdivP : P → P → Option P
 | .int a, .int b => if b ≠ 0 ∧ b.natAbs < 2 ^ 64 then some (.int (a.fdiv b)) else none
 | _, _ => none
noncomputable def modP : P → P → Option P
 | .int a, .int b => if b ≠ 0 then some (.int (a.fmod b)) else none
 | _, _ => none
noncomputable def powP : P → P → Option P
 | .int a, .int n => if 0 ≤ n ∧ n ≤ 1000 ∧ a.natAbs < 2 ^ 64 then some (.int (a ^ n.toNat)) else none
 | _, _ => none
noncomputable def shlP : P → P → Option P
 | .int a, .int n => if 0 ≤ n ∧ n ≤ 1000 ∧ a.natAbs < 2 ^ 64 then some (.int (a * 2 ^ n.toNat)) else none
 | _, _ => none
noncomputable def shrP : P → P → Option P
 | .int a, .int n => if 0 ≤ n then some (.int (a.fdiv (2 ^ n.toNat))) else none
 | _, _ => none
noncomputable def xorP : P → P → Option P
 | .int a, .int b => some (.int (Builtin.bitXor a b))
 | _, _ => none
noncomputable def negP : P → Option P
 | .int a => some (.int (-a))
 | _ => none
noncomputable def invP : P → Option P
 | .int a => some (.int (Builtin.bitNot a))
 | _ => none
noncomputable def ltP : P → P → Option P
 | .int a, .int b => some (.bool (decide (a < b)))
 | _, _ => none
noncomputable def leP : P → P → Option P
 | .int a, .int b => some (.bool (decide (a ≤ b)))
 | _, _ => none
noncomputable def eqP : P → P → Option P
 | .int a, .int b => some (.bool (a == b))
 | .bool a, .bool b => some (.bool (a == b))
 | .str a, .str b => some (.bool (a == b))
 | _, _ => none
noncomputable def neP : P → P → Option P
 | .int a, .int b => some (.bool (a != b))
 | .bool a, .bool b => some (.bool (a != b))
 | .str a, .str b => some (.bool (a != b))
 | _, _ => none
theorem bits64 {a : Int} (h : a.natAbs < 2 ^ 64) : Builtin.Int.intBits a ≤ 64 := intBits_le_64 (by omega) (by omega)
theorem mulOk64 {a b : Int} (h : a.natAbs < 2 ^ 64) : IntMulOk a b := by
 have := bits64 h
 unfold IntMulOk
 have e : decide (Builtin.Int.intBits a > shortFactorBits) = false := decide_eq_false (by unfold shortFactorBits; lia)
 rw [e]
 simp
theorem pylong64 {a b : Int} (h : b.natAbs < 2 ^ 64) : Builtin.divisionGoesByPylong a b = false := by
 refine PyProof.noPylong_of_log2 ?_
 by_cases h0 : b.natAbs = 0
 · rw [h0]; decide +kernel
 · have := (Nat.log2_lt h0).mpr h
   exact m2 ‹_› (by decide)
section
variable {rm : Nat}
theorem ok_add : Op2 rm (binaryOp .Add) addP := fun G ok s a b r x y A Q zz hk zz zz ha hb h hQ => by
 unfold addP at h
 split at h
 · obtain rfl := sij h
   obtain ⟨t, rfl⟩ := ha; obtain ⟨u, rfl⟩ := hb
   with_reducible refine add_int ?_
   · exact (hQ _ s.heap _ ⟨_, rfl⟩ .refl hk)
 · split at h
   · rename_i hl
     obtain rfl := sij h
     obtain ⟨t, rfl⟩ := ha; obtain ⟨u, rfl⟩ := hb
     with_reducible refine add_str ?_ ?_
     · intro t' tk; exact hQ _ s.heap _ ⟨_, rfl⟩ .refl hk
     · rw [sizeLine_eq]; exact n9 ‹_› (by decide)
   · cases h
 · cases h
theorem ok_iadd : Op2 rm (inplaceOp .Add) iaddP := fun G ok s a b r x y A Q zz hk zz zz ha hb h hQ => by
 unfold iaddP at h
 split at h
 · obtain rfl := sij h
   obtain ⟨t, rfl⟩ := ha; obtain ⟨u, rfl⟩ := hb
   with_reducible refine iadd_int ?_
   · exact (hQ _ s.heap _ ⟨_, rfl⟩ .refl hk)
 · cases h
theorem ok_sub : Op2 rm (binaryOp .Sub) subP := fun G ok s a b r x y A Q zz hk zz zz ha hb h hQ => by
 unfold subP at h
 split at h
 · obtain rfl := sij h
   obtain ⟨t, rfl⟩ := ha; obtain ⟨u, rfl⟩ := hb
   with_reducible refine sub_int ?_
   · exact (hQ _ s.heap _ ⟨_, rfl⟩ .refl hk)
 · cases h
theorem ok_mul : Op2 rm (binaryOp .Mult) mulP := fun G ok s a b r x y A Q zz hk zz zz ha hb h hQ => by
 cases a with
 | int a =>
   cases b with
   | int b =>
     obtain ⟨hl, h⟩ := ifS h
     obtain rfl := sij h
     obtain ⟨t, rfl⟩ := ha; obtain ⟨u, rfl⟩ := hb
     with_reducible refine mul_int ?_ ?_
     · exact (hQ _ s.heap _ ⟨_, rfl⟩ .refl hk)
     · exact (mulOk64 hl)
   | _ => exact nn h
 | str a =>
   cases b with
   | int b =>
     obtain ⟨hl, h⟩ := ifS h
     obtain rfl := sij h
     obtain ⟨t, rfl⟩ := ha; obtain ⟨u, rfl⟩ := hb
     with_reducible refine SB.mul ?_ ?_
     · exact mulOk_of 1000 16 hl.1 (by lia) (by lia) (by decide) (by decide)
     · intro t' tk; exact hQ _ s.heap _ ⟨_, rfl⟩ .refl hk
   | _ => exact nn h
 | _ => exact nn h
theorem ok_imul : Op2 rm (inplaceOp .Mult) imulP := fun G ok s a b r x y A Q zz hk zz zz ha hb h hQ => by
 unfold imulP at h
 split at h
 · split at h
   · rename_i hl
     obtain rfl := sij h
     obtain ⟨t, rfl⟩ := ha; obtain ⟨u, rfl⟩ := hb
     with_reducible refine imul_int ?_ ?_
     · exact (hQ _ s.heap _ ⟨_, rfl⟩ .refl hk)
     · exact (mulOk64 hl)
   · cases h
 · cases h
theorem ok_fdiv : Op2 rm (binaryOp .FloorDiv) fdivP := fun G ok s a b r x y A Q zz hk zz zz ha hb h hQ => by
 unfold fdivP at h
 split at h
 · split at h
   · rename_i hl
     obtain rfl := sij h
     obtain ⟨t, rfl⟩ := ha; obtain ⟨u, rfl⟩ := hb
     with_reducible refine floordiv_int ?_ ?_ ?_
     · exact hl.1
     · exact (hQ _ s.heap _ ⟨_, rfl⟩ .refl hk)
     · exact (.inl (pylong64 hl.2))
   · cases h
 · cases h
theorem ok_ifdiv : Op2 rm (inplaceOp .FloorDiv) fdivP := fun G ok s a b r x y A Q zz hk zz zz ha hb h hQ => by
 unfold fdivP at h
 split at h
 · split at h
   · rename_i hl
     obtain rfl := sij h
     obtain ⟨t, rfl⟩ := ha; obtain ⟨u, rfl⟩ := hb
     with_reducible refine ifloordiv_int ?_ ?_ ?_
     · exact hl.1
     · exact (hQ _ s.heap _ ⟨_, rfl⟩ .refl hk)
     · exact (.inl (pylong64 hl.2))
   · cases h
 · cases h
theorem ok_mod : Op2 rm (binaryOp .Mod) modP := fun G ok s a b r x y A Q zz hk zz zz ha hb h hQ => by
 unfold modP at h
 split at h
 · split at h
   · rename_i hl
     obtain rfl := sij h
     obtain ⟨t, rfl⟩ := ha; obtain ⟨u, rfl⟩ := hb
     with_reducible refine mod_int' ?_ ?_
     · exact hl
     · exact (hQ _ s.heap _ ⟨_, rfl⟩ .refl hk)
   · cases h
 · cases h
theorem ok_pow : Op2 rm (binaryOp .Pow) powP := fun G ok s a b r x y A Q zz hk zz zz ha hb h hQ => by
 unfold powP at h
 split at h
 · split at h
   · rename_i hl
     obtain rfl := sij h
     obtain ⟨t, rfl⟩ := ha; obtain ⟨u, rfl⟩ := hb
     with_reducible refine pow_int_small ?_ ?_ ?_ ?_
     · exact hl.1
     · exact (by omega)
     · exact hl.2.2
     · exact (hQ _ s.heap _ ⟨_, rfl⟩ .refl hk)
   · cases h
 · cases h
theorem ok_shl : Op2 rm (binaryOp .LShift) shlP := fun G ok s a b r x y A Q zz hk zz zz ha hb h hQ => by
 unfold shlP at h
 split at h
 · split at h
   · rename_i hl
     obtain rfl := sij h
     obtain ⟨t, rfl⟩ := ha; obtain ⟨u, rfl⟩ := hb
     with_reducible refine lshift_int ?_ ?_ ?_
     · exact hl.1
     · exact (by have := bits64 hl.2.2; lia)
     · exact (hQ _ s.heap _ ⟨_, rfl⟩ .refl hk)
   · cases h
 · cases h
theorem ok_shr : Op2 rm (binaryOp .RShift) shrP := fun G ok s a b r x y A Q zz hk zz zz ha hb h hQ => by
 unfold shrP at h
 split at h
 · split at h
   · rename_i hl
     obtain rfl := sij h
     obtain ⟨t, rfl⟩ := ha; obtain ⟨u, rfl⟩ := hb
     with_reducible refine rshift_int ?_ ?_
     · exact hl
     · exact (hQ _ s.heap _ ⟨_, rfl⟩ .refl hk)
   · cases h
 · cases h
theorem ok_xor : Op2 rm (binaryOp .BitXor) xorP := fun G ok s a b r x y A Q zz hk zz zz ha hb h hQ => by
 unfold xorP at h
 split at h
 · obtain rfl := sij h
   obtain ⟨t, rfl⟩ := ha; obtain ⟨u, rfl⟩ := hb
   with_reducible refine xor_int ?_
   · exact (hQ _ s.heap _ ⟨_, rfl⟩ .refl hk)
 · cases h
theorem ok_lt : Op2 rm (compareOp .Lt) ltP := fun G ok s a b r x y A Q zz hk zz zz ha hb h hQ => by
 unfold ltP at h
 split at h
 · obtain rfl := sij h
   obtain ⟨t, rfl⟩ := ha; obtain ⟨u, rfl⟩ := hb
   with_reducible refine lt_int ?_
   · exact (hQ _ s.heap s.toks rfl .refl hk)
 · cases h
theorem ok_le : Op2 rm (compareOp .LtE) leP := fun G ok s a b r x y A Q zz hk zz zz ha hb h hQ => by
 unfold leP at h
 split at h
 · obtain rfl := sij h
   obtain ⟨t, rfl⟩ := ha; obtain ⟨u, rfl⟩ := hb
   with_reducible refine le_int ?_
   · exact (hQ _ s.heap s.toks rfl .refl hk)
 · cases h
theorem ok_eq : Op2 rm (compareOp .Eq) eqP := fun G ok s a b r x y A Q zz hk zz zz ha hb h hQ => by
 cases a with
 | int a =>
   cases b with
   | int b =>
     obtain rfl := sij h
     obtain ⟨t, rfl⟩ := ha; obtain ⟨u, rfl⟩ := hb
     with_reducible refine eq_int ?_
     · exact (hQ _ s.heap s.toks rfl .refl hk)
   | _ => exact nn h
 | bool a =>
   cases b with
   | bool b =>
     obtain rfl := sij h
     cases ha; cases hb
     with_reducible refine eq_bool ?_
     · exact (hQ _ s.heap s.toks rfl .refl hk)
   | _ => exact nn h
 | str a =>
   cases b with
   | str b =>
     obtain rfl := sij h
     obtain ⟨t, rfl⟩ := ha; obtain ⟨u, rfl⟩ := hb
     with_reducible refine eq_str ?_
     · exact (hQ _ s.heap s.toks rfl .refl hk)
   | _ => exact nn h
 | _ => exact nn h
theorem ok_ne : Op2 rm (compareOp .NotEq) neP := fun G ok s a b r x y A Q zz hk zz zz ha hb h hQ => by
 unfold neP at h
 split at h
 · obtain rfl := sij h
   obtain ⟨t, rfl⟩ := ha; obtain ⟨u, rfl⟩ := hb
   with_reducible refine ne_int ?_
   · exact (hQ _ s.heap s.toks rfl .refl hk)
 · obtain rfl := sij h
   cases ha; cases hb
   with_reducible refine ne_bool ?_
   · exact (hQ _ s.heap s.toks rfl .refl hk)
 · obtain rfl := sij h
   obtain ⟨t, rfl⟩ := ha; obtain ⟨u, rfl⟩ := hb
   with_reducible refine ne_str ?_
   · exact (hQ _ s.heap s.toks rfl .refl hk)
 · cases h
theorem ok_neg : Op1 rm (unaryOp .USub) negP := fun G ok s a r x A Q zz hk zz zz ha h hQ => by
 unfold negP at h
 split at h
 · obtain rfl := sij h
   obtain ⟨t, rfl⟩ := ha
   with_reducible refine neg_int ?_
   · exact (hQ _ s.heap _ ⟨_, rfl⟩ .refl hk)
 · cases h
theorem ok_inv : Op1 rm (unaryOp .Invert) invP := fun G ok s a r x A Q zz hk zz zz ha h hQ => by
 unfold invP at h
 split at h
 · obtain rfl := sij h
   obtain ⟨t, rfl⟩ := ha
   with_reducible refine invert_int ?_
   · exact (hQ _ s.heap _ ⟨_, rfl⟩ .refl hk)
 · cases h
end
theorem PVs.len {ok : Addr → Prop} {h : Heap} : ∀ {xs : List P} {ys : List Value}, PVs ok h xs ys → ys.length = xs.length
 | [], _, e => by rw [show _ = _ from e]; rfl
 | _ :: _, _, e => by
   simp only [PVs] at e
   obtain ⟨y, r, rfl, _, q⟩ := e
   simp [PVs.len q]
theorem PVs.get {ok : Addr → Prop} {h : Heap} : ∀ {xs : List P} {ys : List Value} {j : Nat} {p : P}, PVs ok h xs ys → xs[j]? = some p → ∃ y, ys[j]? = some y ∧ PV ok h p y
 | [], _, _, _, _, e => by simp at e
 | _ :: _, _, 0, _, q, e => by
   simp only [PVs] at q
   obtain ⟨y, r, rfl, a, b⟩ := q
   simp only [List.getElem?_cons_zero, Option.some.injEq] at e
   subst e
   exact ⟨y, rfl, a⟩
 | _ :: _, _, j + 1, _, q, e => by
   simp only [PVs] at q
   obtain ⟨y, r, rfl, a, b⟩ := q
   simp only [List.getElem?_cons_succ] at e ⊢
   exact PVs.get b e
theorem PVs.none {ok : Addr → Prop} {h : Heap} {xs : List P} {ys : List Value} {j : Nat} (q : PVs ok h xs ys) (e : xs[j]? = none) : ys[j]? = none := by
 rw [List.getElem?_eq_none_iff] at e ⊢
 rw [q.len]; exact e
theorem PVs.drop {ok : Addr → Prop} {h : Heap} : ∀ {n : Nat} {xs : List P} {ys : List Value}, PVs ok h xs ys → PVs ok h (xs.drop n) (ys.drop n)
 | 0, _, _, q => q
 | n + 1, [], _, q => by rw [show _ = _ from q]; rfl
 | n + 1, _ :: _, _, q => by
   simp only [PVs] at q
   obtain ⟨y, r, rfl, a, b⟩ := q
   exact PVs.drop (n := n) b
theorem PVs.take {ok : Addr → Prop} {h : Heap} : ∀ {n : Nat} {xs : List P} {ys : List Value}, PVs ok h xs ys → PVs ok h (xs.take n) (ys.take n)
 | 0, _, _, q => by simp [PVs]
 | n + 1, [], _, q => by rw [show _ = _ from q]; rfl
 | n + 1, _ :: _, _, q => by
   dsimp only [PVs] at q
   obtain ⟨y, r, rfl, a, b⟩ := q
   dsimp only [List.take_succ_cons, PVs]
   exact ⟨y, _, rfl, a, PVs.take (n := n) b⟩
theorem PVs.append {ok : Addr → Prop} {h : Heap} : ∀ {xs xs' : List P} {ys ys' : List Value}, PVs ok h xs ys → PVs ok h xs' ys' → PVs ok h (xs ++ xs') (ys ++ ys')
 | [], _, _, _, q, q' => by rw [show _ = _ from q]; exact q'
 | _ :: _, _, _, _, q, q' => by
   dsimp only [PVs] at q
   obtain ⟨y, r, rfl, a, b⟩ := q
   dsimp only [List.cons_append, PVs]
   exact ⟨y, _, rfl, a, PVs.append b q'⟩
theorem PVs.reverse {ok : Addr → Prop} {h : Heap} : ∀ {xs : List P} {ys : List Value}, PVs ok h xs ys → PVs ok h xs.reverse ys.reverse
 | [], _, q => by rw [show _ = _ from q]; rfl
 | _ :: _, _, q => by
   simp only [PVs] at q
   obtain ⟨y, r, rfl, a, b⟩ := q
   simp only [List.reverse_cons]
   exact PVs.append (PVs.reverse b) (by simp only [PVs]; exact ⟨y, [], rfl, a, rfl⟩)
theorem PVs.pick {ok : Addr → Prop} {h : Heap} {xs : List P} {ys : List Value} (q : PVs ok h xs ys) : ∀ l : List Nat, PVs ok h (l.filterMap (xs[·]?)) (l.filterMap (ys[·]?))
 | [] => rfl
 | i :: l => by
   cases e : xs[i]? with
   | none =>
     rw [List.filterMap_cons_none e, List.filterMap_cons_none (q.none e)]
     exact PVs.pick q l
   | some p =>
     obtain ⟨y, e', hp⟩ := q.get e
     rw [List.filterMap_cons_some e, List.filterMap_cons_some e']
     simp only [PVs]
     exact ⟨y, _, rfl, hp, PVs.pick q l⟩
noncomputable def seqOf (σ : St) : V → Option (List P)
 | .p (.tup xs) => some xs
 | .p (.lst xs) => some xs
 | .own i => σ.own[i]?
 | _ => none
noncomputable def lstOf (σ : St) : V → Option (List P)
 | .p (.lst xs) => some xs
 | .own i => σ.own[i]?
 | _ => none
theorem lst_view {G : Gd} {Γ : Fi} {mu : List Addr} {s₀ s : Shared} {σ : St} {ow : List Addr} {v : V} {x : Value} {xs : List P} (R : Rp G Γ mu s₀ σ ow s) (h : VR s.heap ow v x) (e : lstOf σ v = some xs) :
   ∃ a ys, x = .ref a ∧ s.heap.IsList a (List.toArray ys) ∧ PVs (· ∉ ow) s.heap xs ys := by
 cases v with
 | own i =>
   obtain ⟨a, ha, rfl⟩ := h
   obtain ⟨ys, n, q, r⟩ := R.own i a xs ha e
   exact ⟨a, ys, rfl, ⟨_, q, rfl, n, rfl⟩, r⟩
 | p d => cases d with
   | lst zs =>
     simp only [lstOf, Option.some.injEq] at e
     subst e
     simp only [VR, PV] at h
     obtain ⟨a, ys, rfl, _, q, r⟩ := h
     exact ⟨a, ys, rfl, q, r⟩
   | _ => cases e
theorem seq_view {G : Gd} {Γ : Fi} {mu : List Addr} {s₀ s : Shared} {σ : St} {ow : List Addr} {v : V} {x : Value} {xs : List P} (R : Rp G Γ mu s₀ σ ow s) (h : VR s.heap ow v x) (e : seqOf σ v = some xs) :
   ∃ a ys, x = .ref a ∧ (s.heap.IsList a (List.toArray ys) ∨ IsTup s.heap a (List.toArray ys)) ∧ PVs (· ∉ ow) s.heap xs ys := by
 cases v with
 | own i =>
   obtain ⟨a, ys, e1, q, r⟩ := lst_view (v := .own i) R h e
   exact ⟨a, ys, e1, .inl q, r⟩
 | p d => cases d with
   | lst zs =>
     obtain ⟨a, ys, e1, q, r⟩ := lst_view (v := .p (.lst zs)) R h e
     exact ⟨a, ys, e1, .inl q, r⟩
   | tup zs =>
     simp only [seqOf, Option.some.injEq] at e
     subst e
     simp only [VR, PV] at h
     obtain ⟨a, ys, rfl, q, r⟩ := h
     exact ⟨a, ys, rfl, .inr q, r⟩
   | _ => cases e
noncomputable def CT (rm : Nat) (cs : Scope) (e : PySem.Expr) (c : St → Option Bool) : Prop :=
 ∀ (G : Gd) (Γ : Fi) (mu : List Addr) (s₀ : Shared) (σ : St) (ow : List Addr) (s : Shared) (b : Bool) (A : Around) (Q : Bool → Shared → Prop),
   G.Ok → Γ.Ok G mu s₀.heap → Γ.cs = cs → c σ = some b → Rp G Γ mu s₀ σ ow s → RmG rm Γ A →
   (∀ s', Rp G Γ mu s₀ σ ow s' → Old tb s.heap s'.heap → Q b s') → wpAny (model PG G.w) A (isTrue e Γ.env (eval e Γ.env)) Q NoE s
noncomputable def truthOf (σ : St) : V → Option Bool
 | .p (.bool b) => some b
 | .p (.int a) => some (a != 0)
 | v => match lstOf σ v with
   | some xs => if xs.length ≤ 1000 then some (!xs.isEmpty) else none
   | none => none
theorem truthy_of {G : Gd} {Γ : Fi} {mu : List Addr} {s₀ s : Shared} {σ : St} {ow : List Addr} {v : V} {x : Value} {b : Bool} {A : Around} {Q : Bool → Shared → Prop} (R : Rp G Γ mu s₀ σ ow s) (h : VR s.heap ow v x) (e : truthOf σ v = some b)
   (hQ : ∀ tk, Q b { s with toks := tk }) : wpAny (model PG G.w) A (truthy x) Q NoE s := by
 have key : ∀ xs, lstOf σ v = some xs → (if xs.length ≤ 1000 then some (!xs.isEmpty) else none) = some b → wpAny (model PG G.w) A (truthy x) Q NoE s := fun xs hx hb => by
   obtain ⟨a, ys, rfl, q, r⟩ := lst_view R h hx
   split at hb
   · rename_i hl
     obtain rfl := sij hb
     have hlen := r.len
     have he : (!(List.toArray ys).isEmpty) = !xs.isEmpty := by cases xs <;> cases ys <;> simp_all
     with_reducible refine wpAny_truthy_list q ?_ ?_
     · simp only [List.size_toArray]; lia
     · rw [he]; exact hQ _
   · cases hb
 unfold truthOf at e
 split at e
 · cases e; cases h; with_reducible refine wpAny_truthy_bool ?_; exact hQ _
 · obtain rfl := sij e; obtain ⟨t, rfl⟩ := h; with_reducible refine truthy_int ?_; exact hQ _
 · split at e
   · rename_i xs hx; exact key xs hx e
   · cases e
noncomputable def cTr (f : St → Option V) : St → Option Bool := fun σ => (f σ).bind (truthOf σ)
noncomputable def cB (f : St → Option V) : St → Option Bool := fun σ => match f σ with
 | some (.p (.bool b)) => some b
 | _ => none
noncomputable def cNot (c : St → Option Bool) : St → Option Bool := fun σ => (c σ).map (!·)
noncomputable def cOr (c d : St → Option Bool) : St → Option Bool := fun σ => match c σ with
 | some false => d σ
 | r => r
noncomputable def cKB (b : Bool) : St → Option Bool := fun zz => some b
section
variable {rm : Nat} {cs : Scope}
theorem CT_plain {e : PySem.Expr} {f : St → Option V} (he : ES rm cs e f) (hp : ∀ env whole, isTrue e env whole = (do let v ← whole; standAt e.pos; holding [v] (truthy v))) : CT rm cs e (cTr f) :=
 fun G Γ mu s₀ σ ow s b A Q hG hΓ hc hf R hm hQ => by
 obtain ⟨v, hv, hb⟩ := Option.bind_eq_some_iff.mp hf
 with_reducible refine isTrue_plain ?_ (hp _ _)
 refine he G Γ mu s₀ σ ow s v A _ hG hΓ hc hv R hm fun x s₁ vx R₁ o₁ => ?_
 exact truthy_of R₁ vx hb fun tk => hQ _ (R₁.tok tk) o₁
theorem CT_cmp {l r : PySem.Expr} {pos : Pos} {o : CmpOp} {f g : St → Option V} {op : P → P → Option P} (hl : ES rm cs l f) (hr : ES rm cs r g) (ho : Op2 rm (compareOp o) op) (hb : behindInMarks o r = false) : CT rm cs (.Compare l [o] [r] pos) (cB (lift2 op f g)) :=
 fun G Γ mu s₀ σ ow s b A Q hG hΓ hc hf R hm hQ => by
 have hf' : lift2 op f g σ = some (.p (.bool b)) := by
   unfold cB at hf
   split at hf
   · rename_i h; obtain rfl := sij hf; exact h
   · cases hf
 with_reducible refine wpAny_isTrue_Compare1 ?_ hb
 refine two_parts (Q := fun c s₃ => wpAny (model PG G.w) A (truthy c) Q NoE s₃) hl hr ho hG hΓ hc hf' R hm fun x s' vx R' o' => ?_
 cases vx
 with_reducible refine wpAny_truthy_bool ?_
 exact hQ _ R' o'
theorem CT_not {e : PySem.Expr} {pos : Pos} {c : St → Option Bool} (he : CT rm cs e c) : CT rm cs (.UnaryOp .Not e pos) (cNot c) := fun G Γ mu s₀ σ ow s b A Q hG hΓ hc hf R hm hQ => by
 obtain ⟨d, hd, rfl⟩ := Option.map_eq_some_iff.mp hf
 with_reducible refine isTrue_not ?_
 exact he G Γ mu s₀ σ ow s d A (fun c s' => Q (!c) s') hG hΓ hc hd R hm hQ
end
section
variable {rm : Nat} {cs : Scope}
theorem CT_or_nil {pos : Pos} : CT rm cs (.BoolOp .Or [] pos) (cKB false) := fun G Γ mu s₀ σ ow s b A Q hG hΓ hc hf R hm hQ => by
 obtain rfl := sij hf
 with_reducible refine isTrue_or_nil ?_
 exact hQ _ R .refl
theorem whole_irrel {Γ : Fi} {x : PySem.Expr} {rest : List PySem.Expr} {o : BoolOp} {pos : Pos} {w w' : Sem Value} : isTrue (.BoolOp o rest pos) Γ.env w = isTrue (.BoolOp o rest pos) Γ.env w' := by
 cases o <;> rfl
theorem CT_or {x : PySem.Expr} {rest : List PySem.Expr} {pos : Pos} {c d : St → Option Bool} (hx : CT rm cs x c) (hr : CT rm cs (.BoolOp .Or rest pos) d) : CT rm cs (.BoolOp .Or (x :: rest) pos) (cOr c d) := fun G Γ mu s₀ σ ow s b A Q hG hΓ hc hf R hm hQ => by
 with_reducible refine isTrue_or ?_
 unfold cOr at hf
 split at hf
 · rename_i h1
   refine hx G Γ mu s₀ σ ow s false A _ hG hΓ hc h1 R hm fun s' R' o' => ?_
   simp only [Bool.false_eq_true, if_false]
   rw [whole_irrel (x := x) (w' := eval (.BoolOp .Or rest pos) Γ.env)]
   exact hr G Γ mu s₀ σ ow s' b A Q hG hΓ hc hf R' hm fun s'' R'' o'' => hQ s'' R'' (o'.trans o'')
 · rename_i h1
   cases b with
   | false => exact absurd hf h1
   | true =>
     refine hx G Γ mu s₀ σ ow s true A _ hG hΓ hc hf R hm fun s' R' o' => ?_
     simp only [if_true]
     exact hQ s' R' o'
noncomputable def cCh (op op' : P → P → Option P) (f g k : St → Option V) : St → Option Bool := fun σ => match f σ, g σ, k σ with
 | some (.p a), some (.p b), some (.p c) => (match op a b with
   | some (.bool true) => (match op' b c with
     | some (.bool d) => some d
     | _ => none)
   | some (.bool false) => some false
   | _ => none)
 | _, _, _ => none
theorem cCh_inv {op op' : P → P → Option P} {f g k : St → Option V} {σ : St} {r : Bool} (h : cCh op op' f g k σ = some r) : ∃ a b c, f σ = some (.p a) ∧ g σ = some (.p b) ∧ k σ = some (.p c) ∧ cCh op op' (fun _ => some (.p a)) (fun _ => some (.p b)) (fun _ => some (.p c)) σ = some r :=
 eO (F := fun o => cCh op op' (fun _ => o) (fun _ => g σ) (fun _ => k σ) σ) (o := f σ) h zr fun x1 e2 h => eV (F := fun o => cCh op op' (fun _ => (some o)) (fun _ => g σ) (fun _ => k σ) σ) (o := x1) h zn fun a e3 h => eO (F := fun o => cCh op op' (fun _ => (some (V.p a))) (fun _ => o) (fun _ => k σ) σ) (o := g σ) h zr fun x4 e5 h => eV (F := fun o => cCh op op' (fun _ => (some (V.p a))) (fun _ => (some o)) (fun _ => k σ) σ) (o := x4) h zn fun b e6 h => eO (F := fun o => cCh op op' (fun _ => (some (V.p a))) (fun _ => (some (V.p b))) (fun _ => o) σ) (o := k σ) h zr fun x7 e8 h => eV (F := fun o => cCh op op' (fun _ => (some (V.p a))) (fun _ => (some (V.p b))) (fun _ => (some o)) σ) (o := x7) h zn fun c e9 h => ⟨a, b, c, e2.trans (congrArg some (e3)), e5.trans (congrArg some (e6)), e8.trans (congrArg some (e9)), h⟩
theorem CT_chain {l r r' : PySem.Expr} {pos : Pos} {o o' : CmpOp} {f g k : St → Option V} {op op' : P → P → Option P} (hl : ES rm cs l f) (hr : ES rm cs r g) (hr' : ES rm cs r' k) (ho : Op2 rm (compareOp o) op) (ho' : Op2 rm (compareOp o') op')
   (hb : lastMarks [o, o'] [r, r'] = false) : CT rm cs (.Compare l [o, o'] [r, r'] pos) (cCh op op' f g k) := fun G Γ mu s₀ σ ow s b A Q hG hΓ hc hf R hm hQ => by
 obtain ⟨a, b, c, ha, hb, hc', hf⟩ := cCh_inv hf
 (delta cCh at hf; dsimp only at hf)
 ·
   have hfr : ∀ {s : Shared}, Rp G Γ mu s₀ σ ow s → ∀ c, s.heap.objs.size ≤ c → c ∉ ow := fun R c hc hm => absurd (R.ow_lt c hm) (Nat.not_lt.mpr hc)
   with_reducible refine isTrue_chain (rs := []) ?_ (by assumption)
   refine hl G Γ mu s₀ σ ow s _ A _ hG hΓ hc ha R hm fun x s₁ vx R₁ o₁ => ?_
   with_reducible refine test_link ?_
   refine hr G Γ mu s₀ σ ow s₁ _ A _ hG hΓ hc hb R₁ hm fun y s₂ vy R₂ o₂ => ?_
   cases hz : op a b with
   | none => rw [hz] at hf; cases hf
   | some z =>
     refine ho G _ s₂ a b z x y A _ hG R₂.ok hm.toRm (hfr R₂) (PV.old o₂ R₁.ok.tabs vx) vy hz fun w h' tk vw o₃ ok₃ => ?_
     have R₃ := R₂.step tk o₃ ok₃
     rw [hz] at hf
     cases z with
     | bool t =>
       cases vw
       with_reducible refine wpAny_truthy_bool ?_
       cases t with
       | false =>
         obtain rfl := sij hf
         simp only [Bool.false_eq_true, if_false]
         exact hQ _ R₃ ((o₁.trans o₂).trans o₃)
       | true =>
         simp only [if_true]
         show wpAny (model PG G.w) A (testChain pos y [o'] [eval r' Γ.env]) Q NoE _
         with_reducible refine test_last ?_
         refine hr' G Γ mu s₀ σ ow _ _ A _ hG hΓ hc hc' R₃ hm fun u s₄ vu R₄ o₄ => ?_
         cases hq : op' b c with
         | none => simp only [hq] at hf; cases hf
         | some q =>
           refine ho' G _ s₄ b c q y u A _ hG R₄.ok hm.toRm (hfr R₄) (PV.old o₄ R₃.ok.tabs (PV.old o₃ R₂.ok.tabs vy)) vu hq fun w' h'' tk' vw' o₅ ok₅ => ?_
           simp only [hq] at hf
           cases q with
           | bool d =>
             obtain rfl := sij hf
             cases vw'
             with_reducible refine wpAny_truthy_bool ?_
             exact hQ _ (R₄.step tk' o₅ ok₅) ((((o₁.trans o₂).trans o₃).trans o₄).trans o₅)
           | _ => cases hf
     | _ => cases hf
noncomputable def cIf (c : St → Option Bool) (f g : St → Option V) : St → Option V := fun σ => match c σ with
 | some true => f σ
 | some false => g σ
 | none => none
theorem ES_if {t x y : PySem.Expr} {pos : Pos} {c : St → Option Bool} {f g : St → Option V} (ht : CT rm cs t c) (hx : ES rm cs x f) (hy : ES rm cs y g) : ES rm cs (.IfExp t x y pos) (cIf c f g) := fun G Γ mu s₀ σ ow s v A Q hG hΓ hc hf R hm hQ => by
 with_reducible refine wpAny_IfExp ?_
 unfold cIf at hf
 split at hf
 · rename_i h
   refine ht G Γ mu s₀ σ ow s true A _ hG hΓ hc h R hm fun s' R' o' => ?_
   simp only [if_true]
   exact hx G Γ mu s₀ σ ow s' v A Q hG hΓ hc hf R' hm fun z s'' r R'' o'' => hQ z s'' r R'' (o'.trans o'')
 · rename_i h
   refine ht G Γ mu s₀ σ ow s false A _ hG hΓ hc h R hm fun s' R' o' => ?_
   simp only [Bool.false_eq_true, if_false]
   exact hy G Γ mu s₀ σ ow s' v A Q hG hΓ hc hf R' hm fun z s'' r R'' o'' => hQ z s'' r R'' (o'.trans o'')
 · cases hf
noncomputable def VRs (h : Heap) (ow : List Addr) : List V → List Value → Prop
 | [], ys => ys = []
 | x :: xs, ys => ∃ y r, ys = y :: r ∧ VR h ow x y ∧ VRs h ow xs r
theorem VRs.old {h h' : Heap} {ow : List Addr} (x : Old tb h h') (T : TabsOk h) : ∀ {vs : List V} {ys : List Value}, VRs h ow vs ys → VRs h' ow vs ys
 | [], _, e => e
 | _ :: _, _, ⟨y, r, e, a, b⟩ => ⟨y, r, e, a.old x T, VRs.old x T b⟩
noncomputable def ESs (rm : Nat) (cs : Scope) (es : List PySem.Expr) (fs : St → Option (List V)) : Prop :=
 ∀ (G : Gd) (Γ : Fi) (mu : List Addr) (s₀ : Shared) (σ : St) (ow : List Addr) (s : Shared) (vs : List V) (A : Around) (pos : Pos) (Q : List Value → Shared → Prop),
   G.Ok → Γ.Ok G mu s₀.heap → Γ.cs = cs → fs σ = some vs → Rp G Γ mu s₀ σ ow s → RmG rm Γ A →
   (∀ xs s', VRs s'.heap ow vs xs → Rp G Γ mu s₀ σ ow s' → Old tb s.heap s'.heap → Q xs s') →
   wpAny (model PG G.w) A (spliced (backTo pos (starEach es Γ.env))) Q NoE s
noncomputable def cNil : St → Option (List V) := fun zz => some []
noncomputable def cCons (f : St → Option V) (fs : St → Option (List V)) : St → Option (List V) := fun σ => match f σ, fs σ with
 | some v, some vs => some (v :: vs)
 | _, _ => none
theorem ESs_nil : ESs rm cs [] cNil := fun G Γ mu s₀ σ ow s vs A pos Q hG hΓ hc hf R hm hQ => by
 obtain rfl := sij hf
 with_reducible refine spliced_none ?_
 exact hQ _ _ rfl R .refl
theorem ESs_cons {e : PySem.Expr} {es : List PySem.Expr} {f : St → Option V} {fs : St → Option (List V)} (he : ES rm cs e f) (hs : ESs rm cs es fs) (hn : ∀ env, starEach (e :: es) env = (false, eval e env) :: starEach es env) : ESs rm cs (e :: es) (cCons f fs) :=
 fun G Γ mu s₀ σ ow s vs A pos Q hG hΓ hc hf R hm hQ => by
 unfold cCons at hf
 split at hf
 · rename_i v vs' h1 h2
   obtain rfl := sij hf
   with_reducible refine spliced_more ?_ (hn _)
   refine he G Γ mu s₀ σ ow s v A _ hG hΓ hc h1 R hm fun z s' r R' o' => ?_
   refine hs G Γ mu s₀ σ ow s' vs' A pos _ hG hΓ hc h2 R' hm fun zs s'' rs R'' o'' => ?_
   exact hQ _ s'' ⟨z, zs, rfl, r.old o'' R'.ok.tabs, rs⟩ R'' (o'.trans o'')
 · cases hf
noncomputable def allP : List V → Option (List P)
 | [] => some []
 | .p x :: r => (allP r).map (x :: ·)
 | .own _ :: _ => none
theorem allP_view {h : Heap} {ow : List Addr} : ∀ {vs : List V} {xs : List P} {ys : List Value}, allP vs = some xs → VRs h ow vs ys → PVs (· ∉ ow) h xs ys
 | [], _, _, e, q => by obtain rfl := sij e; exact q
 | .p x :: r, _, _, e, ⟨y, t, e', a, b⟩ => by
   obtain ⟨zs, hz, rfl⟩ := Option.map_eq_some_iff.mp e
   exact ⟨y, t, e', a, allP_view hz b⟩
 | .own _ :: _, _, _, e, _ => by cases e
noncomputable def cTup (fs : St → Option (List V)) : St → Option V := fun σ => match (fs σ).bind allP with
 | some xs => if xs.length ≤ 1000 then some (.p (.tup xs)) else none
 | none => none
noncomputable def cLst (fs : St → Option (List V)) : St → Option V := fun σ => match (fs σ).bind allP with
 | some xs => if xs.length ≤ 1000 then some (.p (.lst xs)) else none
 | none => none
theorem PVs.push {ok : Addr → Prop} {h : Heap} {o : Obj} {xs : List P} {ys : List Value} (q : PVs ok h xs ys) : PVs ok (h.push o) xs ys := q.mono (fun b o' e zz zz => Heap.get?_push_of_some _ e) fun zz zz zz k => k
theorem PV.push {ok : Addr → Prop} {h : Heap} {o : Obj} {x : P} {y : Value} (q : PV ok h x y) : PV ok (h.push o) x y := q.mono (fun b o' e zz zz => Heap.get?_push_of_some _ e) fun zz zz zz k => k
theorem ES_tup {es : List PySem.Expr} {k : Nat} {pos : Pos} {fs : St → Option (List V)} (hs : ESs rm cs es fs) : ES rm cs (.Tuple es k pos) (cTup fs) := fun G Γ mu s₀ σ ow s v A Q hG hΓ hc hf R hm hQ => by
 with_reducible refine Tuple_ ?_
 unfold cTup at hf
 split at hf
 · rename_i xs hx
   split at hf
   · rename_i hl
     obtain rfl := sij hf
     obtain ⟨vs, h1, h2⟩ := Option.bind_eq_some_iff.mp hx
     refine hs G Γ mu s₀ σ ow s vs A pos _ hG hΓ hc h1 R hm fun zs s' rs R' o' => ?_
     have q := allP_view h2 rs
     with_reducible refine wpAny_newTuple ?_ (by rw [sizeLine_eq, q.len]; lia)
     refine hQ _ _ ⟨_, zs, rfl, IsTup.new _ _, q.push⟩ (R'.step _ (.push _) (R'.ok.push _)) (o'.trans (.push _))
   · cases hf
 · cases hf
theorem ES_lst {es : List PySem.Expr} {pos : Pos} {fs : St → Option (List V)} (hs : ESs rm cs es fs) : ES rm cs (.List es pos) (cLst fs) := fun G Γ mu s₀ σ ow s v A Q hG hΓ hc hf R hm hQ => by
 with_reducible refine List_ ?_
 unfold cLst at hf
 split at hf
 · rename_i xs hx
   split at hf
   · rename_i hl
     obtain rfl := sij hf
     obtain ⟨vs, h1, h2⟩ := Option.bind_eq_some_iff.mp hx
     refine hs G Γ mu s₀ σ ow s vs A pos _ hG hΓ hc h1 R hm fun zs s' rs R' o' => ?_
     have q := allP_view h2 rs
     with_reducible refine wpAny_newList ?_ (by rw [sizeLine_eq, q.len]; lia)
     refine hQ _ _ ⟨_, zs, rfl, R'.fresh, ⟨_, Heap.get?_push_size _ rfl, rfl, _, rfl⟩, q.push⟩ (R'.step _ (.push _) (R'.ok.push _)) (o'.trans (.push _))
   · cases hf
 · cases hf
noncomputable def subV (σ : St) (v : V) (k : Int) : Option P := match v with
 | .p (.str x) => ((seqIndex? k x.length).bind (x.cps[·]?)).map fun c => .str ⟨#[c]⟩
 | v => match seqOf σ v with
   | some xs => (seqIndex? k xs.length).bind (xs[·]?)
   | none => none
noncomputable def cSub (f g : St → Option V) : St → Option V := fun σ => match f σ, g σ with
 | some v, some (.p (.int k)) => if -(2 ^ 63) ≤ k ∧ k < 2 ^ 63 then (subV σ v k).map .p else none
 | _, _ => none
theorem subV_ok {G : Gd} {Γ : Fi} {mu : List Addr} {s₀ s : Shared} {σ : St} {ow : List Addr} {v : V} {x : Value} {r : P} {k : Int} {t : Tok} {A : Around} {Q : Value → Shared → Prop} {value slice : PySem.Expr} (R : Rp G Γ mu s₀ σ ow s) (h : VR s.heap ow v x) (e : subV σ v k = some r)
   (hk : -(2 ^ 63) ≤ k ∧ k < 2 ^ 63) (hsub : ∀ o i, subscripted slice false o i = operate [o, i] (getItem o i))
   (hQ : ∀ y tk, VR s.heap ow (.p r) y → Q y { s with toks := tk }) : wpAny (model PG G.w) A (subscriptTail value slice x (.int k t)) Q NoE s := by
 have key : ∀ xs, seqOf σ v = some xs → (seqIndex? k xs.length).bind (xs[·]?) = some r → wpAny (model PG G.w) A (subscriptTail value slice x (.int k t)) Q NoE s := fun xs hx hr => by
   obtain ⟨a, ys, rfl, q, p⟩ := seq_view R h hx
   obtain ⟨j, hj, hjr⟩ := Option.bind_eq_some_iff.mp hr
   obtain ⟨y, hy, py⟩ := p.get hjr
   rw [← p.len] at hj
   have hy' : (List.toArray ys)[j]? = some y := by simpa using hy
   rcases q with q | q
   · refine tail_any q.typeIs slot_list_getitem.lookup ?_ (hsub _ _)
     by_cases h0 : 0 ≤ k
     · have hjk : j = k.toNat := by
         unfold seqIndex? at hj
         simp only at hj
         split at hj <;> (try split at hj) <;> first | (cases hj; lia) | cases hj
       with_reducible refine wpAny_getItem_list (x := y) q h0 hk.2 ?_ ?_
       · exact hjk ▸ hy'
       · exact hQ y s.toks py
     · have hjk : j = (k + (List.toArray ys).size).toNat ∧ -((List.toArray ys).size : Int) ≤ k := by
         simp only [List.size_toArray]
         unfold seqIndex? at hj
         simp only at hj
         split at hj <;> (try split at hj) <;> (try simp only [Bool.and_eq_true, decide_eq_true_eq] at *) <;> first | (cases hj; lia) | cases hj
       with_reducible refine wpAny_getItem_list_neg (x := y) q (by lia) hjk.2 hk.1 ?_ ?_
       · exact hjk.1 ▸ hy'
       · exact hQ y s.toks py
   · refine tail_any q.typeIs slot_tuple_getitem.lookup ?_ (hsub _ _)
     with_reducible refine getItem_tuple (j := j) (x := y) q hk.1 hk.2 ?_ ?_ ?_
     · simpa using hj
     · exact hy'
     · exact hQ y s.toks py
 unfold subV at e
 split at e
 · obtain ⟨c, hc, rfl⟩ := Option.map_eq_some_iff.mp e
   obtain ⟨u, rfl⟩ := h
   refine tail_any (typeIs_str _ _ _) slot_str_getitem.lookup ?_ (hsub _ _)
   with_reducible refine getItem_str ?_ hc ?_
   · simp only [Bool.or_eq_false_iff, decide_eq_false_iff_not]; lia
   · exact hQ _ _ ⟨_, rfl⟩
 · split at e
   · rename_i xs hx; exact key xs hx e
   · cases e
theorem cSub_inv {f g : St → Option V} {σ : St} {v : V} (h : cSub f g σ = some v) : ∃ u k, f σ = some u ∧ g σ = some (.p (.int k)) ∧ (if -(2 ^ 63) ≤ k ∧ k < 2 ^ 63 then (subV σ u k).map V.p else none) = some v :=
 eO (F := fun o => cSub (fun _ => o) (fun _ => g σ) σ) (o := f σ) h zr fun u e1 h => eO (F := fun o => cSub (fun _ => (some u)) (fun _ => o) σ) (o := g σ) h zr fun x2 e3 h => eV (F := fun o => cSub (fun _ => (some u)) (fun _ => (some o)) σ) (o := x2) h zn fun x4 e5 h => eI (F := fun o => cSub (fun _ => (some u)) (fun _ => (some (V.p o))) σ) (o := x4) h zr zn zn zn zn zn fun k e6 h => ⟨u, k, e1, e3.trans (congrArg some (e5.trans (congrArg V.p (e6)))), h⟩
theorem ES_sub {value slice : PySem.Expr} {pos : Pos} {f g : St → Option V} (hv : ES rm cs value f) (hs : ES rm cs slice g) (hsub : ∀ o i, subscripted slice false o i = operate [o, i] (getItem o i)) : ES rm cs (.Subscript value slice pos) (cSub f g) :=
 fun G Γ mu s₀ σ ow s v A Q hG hΓ hc hf R hm hQ => by
 with_reducible refine Subscript_ ?_
 obtain ⟨v, k, h1, h2, hf⟩ := cSub_inv hf
 obtain ⟨hk, hf⟩ := ifS hf
 ·
   ·
     obtain ⟨r, hr, rfl⟩ := Option.map_eq_some_iff.mp hf
     refine hv G Γ mu s₀ σ ow s v A _ hG hΓ hc h1 R hm fun x s' rx R' o' => ?_
     refine hs G Γ mu s₀ σ ow s' _ A _ hG hΓ hc h2 R' hm fun y s'' ry R'' o'' => ?_
     obtain ⟨t, rfl⟩ := ry
     exact subV_ok R'' (rx.old o'' R'.ok.tabs) hr hk hsub fun y tk py => hQ y _ py (R''.tok tk) (o'.trans o'')
end
theorem tab_there {h : Heap} (T : TabsOk h) {b : Addr} (hb : b ∈ tb) : ∃ o, h.get? b = some o := by
 have key : ∀ q ∈ tq, b = q.1 → ∃ o, h.get? b = some o := fun q hq hbq => by
   obtain ⟨ps, hp, _⟩ := T q hq
   exact ⟨_, hbq ▸ hp⟩
 simp only [tb, List.mem_cons, List.not_mem_nil, or_false] at hb
 rcases hb with rfl | rfl | rfl | rfl
 · exact key _ (.head _) rfl
 · exact key _ (.tail _ (.head _)) rfl
 · exact key _ (.tail _ (.tail _ (.head _))) rfl
 · exact key _ (.tail _ (.tail _ (.tail _ (.head _)))) rfl
theorem none_back {h h' : Heap} (o : Old tb h h') (T : TabsOk h') {a : Addr} (e : h'.get? a = none) : h.get? a = none := by
 cases q : h.get? a with
 | none => rfl
 | some x =>
   by_cases hb : a ∈ tb
   · obtain ⟨y, hy⟩ := tab_there T hb
     rw [e] at hy; cases hy
   · rw [o a x hb q] at e; cases e
theorem get_size (h : Heap) : h.get? h.objs.size = none := Heap.get?_none_of_le (Nat.le_refl _)
section
variable {G : Gd} {Γ : Fi} {mu : List Addr} {s₀ s : Shared} {σ : St} {ow : List Addr}
theorem Rp.above (R : Rp G Γ mu s₀ σ ow s) (hΓ : Γ.Ok G mu s₀.heap) : s₀.heap.objs.size ≤ s.heap.objs.size := by
 obtain ⟨m, hm, _⟩ := R.m
 exact Nat.le_of_lt (Nat.lt_of_le_of_lt hΓ.L hm.lt)
end
structure New (ow : List Addr) (s₀ s s' : Shared) (a : Addr) (xs : List P) : Prop where
 none : s.heap.get? a = none
 above : s₀.heap.objs.size ≤ a
 off : a ∉ ow
 there : ∃ ys n, s'.heap.get? a = some (W.listOf (List.toArray ys) n) ∧ PVs (fun b => b ∉ ow ∧ b ≠ a) s'.heap xs ys
noncomputable def NS (rm : Nat) (cs : Scope) (e : PySem.Expr) (f : St → Option (List P)) : Prop :=
 ∀ (G : Gd) (Γ : Fi) (mu : List Addr) (s₀ : Shared) (σ : St) (ow : List Addr) (s : Shared) (xs : List P) (A : Around) (Q : Value → Shared → Prop),
   G.Ok → Γ.Ok G mu s₀.heap → Γ.cs = cs → f σ = some xs → Rp G Γ mu s₀ σ ow s → RmG rm Γ A →
   (∀ a s', New ow s₀ s s' a xs → Rp G Γ mu s₀ σ ow s' → Old tb s.heap s'.heap → Q (.ref a) s') →
   wpAny (model PG G.w) A (eval e Γ.env) Q NoE s
noncomputable def cFz (f : St → Option (List P)) : St → Option V := fun σ => (f σ).map fun xs => .p (.lst xs)
theorem New.at {ow : List Addr} {G : Gd} {Γ : Fi} {mu : List Addr} {s₀ s s₁ : Shared} {σ : St} {xs : List P} {h' : Heap} {tk : Nat} {ys : List Value} {n : Nat} (R : Rp G Γ mu s₀ σ ow s₁) (hΓ : Γ.Ok G mu s₀.heap) (o : Old tb s.heap s₁.heap)
   (hy : h'.get? s₁.heap.objs.size = some (W.listOf (List.toArray ys) n)) (hk : ∀ b o, s₁.heap.get? b = some o → h'.get? b = some o) (hp : PVs (· ∉ ow) s₁.heap xs ys) : New ow s₀ s { s₁ with heap := h', toks := tk } s₁.heap.objs.size xs :=
 ⟨none_back o R.ok.tabs (get_size _), R.above hΓ, R.fresh, ys, n, hy, hp.mono (fun b o e zz zz => hk b o e) fun b o e k => ⟨k, Nat.ne_of_lt (Heap.lt_size e)⟩⟩
section
variable {rm : Nat} {cs : Scope}
theorem ES_fz {e : PySem.Expr} {f : St → Option (List P)} (h : NS rm cs e f) : ES rm cs e (cFz f) := fun G Γ mu s₀ σ ow s v A Q hG hΓ hc hf R hm hQ => by
 obtain ⟨xs, hx, rfl⟩ := Option.map_eq_some_iff.mp hf
 refine h G Γ mu s₀ σ ow s xs A Q hG hΓ hc hx R hm fun a s' N R' o' => ?_
 obtain ⟨ys, n, ha, hp⟩ := N.there
 exact hQ _ s' ⟨a, ys, rfl, N.off, ⟨_, ha, rfl, n, rfl⟩, hp.mono (fun b o e zz zz => e) fun zz zz zz k => k.1⟩ R' o'
noncomputable def nLst (fs : St → Option (List V)) : St → Option (List P) := fun σ => match (fs σ).bind allP with
 | some xs => if xs.length ≤ 1000 then some xs else none
 | none => none
theorem NS_lst {es : List PySem.Expr} {pos : Pos} {fs : St → Option (List V)} (hs : ESs rm cs es fs) : NS rm cs (.List es pos) (nLst fs) := fun G Γ mu s₀ σ ow s xs A Q hG hΓ hc hf R hm hQ => by
 with_reducible refine List_ ?_
 unfold nLst at hf
 split at hf
 · rename_i zs hx
   split at hf
   · rename_i hl
     obtain rfl := sij hf
     obtain ⟨vs, h1, h2⟩ := Option.bind_eq_some_iff.mp hx
     refine hs G Γ mu s₀ σ ow s vs A pos _ hG hΓ hc h1 R hm fun us s' rs R' o' => ?_
     have q := allP_view h2 rs
     with_reducible refine wpAny_newList ?_ (by rw [sizeLine_eq, q.len]; exact n9 ‹_› (by decide))
     exact hQ _ _ (New.at R' hΓ o' (Heap.get?_push_size _ rfl) (fun b o e => Heap.get?_push_of_some _ e) q) (R'.step _ (.push _) (R'.ok.push _)) (o'.trans (.push _))
   · cases hf
 · cases hf
structure Bn (x : Str) (v : Value) : Prop where
 k : ∀ w, nsIn (KF w) mainGlobals x = some none
 b : bootBuiltins x = some v
 n : x ≠ "__name__"
 d : (x == ("__debug__" : Str)) = false
structure Gn (x : Str) (v : Value) : Prop where
 k : ∀ w, nsIn (KF w) mainGlobals x = some (some v)
 d : (x == ("__debug__" : Str)) = false
theorem name_B {G : Gd} {Γ : Fi} {mu : List Addr} {s : Shared} {h : Heap} {A : Around} {Q : Value → Shared → Prop} {E} {x : Str} {v : Value} {pos : Pos} (i : Nat) (B : Bn x v) (hG : G.Ok) (hΓ : Γ.Ok G mu h) (hx : Γ.cs.names[i]? = some (x, .globalImplicit)) (ok : G.at s.heap) (hQ : Q v s) :
   wpAny (model PG G.w) A (eval (.Name x pos) Γ.env) Q E s :=
 Name_function_global hΓ.fn (hΓ.kind hx) (loadGlobal_builtin (env := Γ.env) (hG.g.keeps ok.stay) (mg_none_of hG.X hG.g (B.k G.w)) (hG.b.keeps ok.stay) ((hG.bl x B.n).trans B.b) hQ) B.d
theorem name_G {G : Gd} {Γ : Fi} {mu : List Addr} {s : Shared} {h : Heap} {A : Around} {Q : Value → Shared → Prop} {E} {x : Str} {v : Value} {pos : Pos} (i : Nat) (B : Gn x v) (hG : G.Ok) (hΓ : Γ.Ok G mu h) (hx : Γ.cs.names[i]? = some (x, .globalImplicit)) (ok : G.at s.heap) (hQ : Q v s) :
   wpAny (model PG G.w) A (eval (.Name x pos) Γ.env) Q E s :=
 Name_function_global hΓ.fn (hΓ.kind hx) (loadGlobal_global (env := Γ.env) (hG.g.keeps ok.stay) (mg_of hG.X hG.g (B.k G.w)) hQ) B.d
theorem ES_gint (i : Nat) {x : Str} {n : Int} {t : Tok} {pos : Pos} (B : Gn x (.int n t)) (hx : cs.names[i]? = some (x, .globalImplicit)) : ES rm cs (.Name x pos) (cK (.int n)) := fun G Γ mu s₀ σ ow s v A Q hG hΓ hc hf R hm hQ => by
 obtain rfl := sij hf
 subst hc
 exact name_G i B hG hΓ hx R.ok (hQ _ _ ⟨_, rfl⟩ R .refl)
theorem ES_bn (i : Nat) {x : Str} {u : Value} {pos : Pos} (B : Bn x u) (hx : cs.names[i]? = some (x, .globalImplicit)) : ES rm cs (.Name x pos) (cK (.raw u)) := fun G Γ mu s₀ σ ow s v A Q hG hΓ hc hf R hm hQ => by
 obtain rfl := sij hf
 subst hc
 exact name_B i B hG hΓ hx R.ok (hQ _ _ rfl R .refl)
noncomputable def OpA (rm : Nat) (f : Value) (op : St → List V → Option P) : Prop :=
 ∀ (G : Gd) (Γ : Fi) (mu : List Addr) (s₀ : Shared) (σ : St) (ow : List Addr) (s : Shared) (vs : List V) (xs : List Value) (r : P) (A : Around) (Q : Value → Shared → Prop),
   G.Ok → Γ.Ok G mu s₀.heap → Rp G Γ mu s₀ σ ow s → RmG rm Γ A → VRs s.heap ow vs xs → op σ vs = some r →
   (∀ y h' tk, PV (· ∉ ow) h' r y → Old tb s.heap h' → G.at h' → Q y { s with heap := h', toks := tk }) → wpAny (model PG G.w) A (call f xs) Q NoE s
noncomputable def cApp (op : St → List V → Option P) (fs : St → Option (List V)) : St → Option V := fun σ => ((fs σ).bind (op σ)).map .p
theorem app_parts {G : Gd} {Γ : Fi} {mu : List Addr} {s₀ s : Shared} {σ : St} {ow : List Addr} {A : Around} {v : V} {Q : Value → Shared → Prop} {es : List PySem.Expr} {fs : St → Option (List V)} {op : St → List V → Option P} {f : Value} {pos : Pos}
   (hs : ESs rm cs es fs) (ho : OpA rm f op) (hG : G.Ok) (hΓ : Γ.Ok G mu s₀.heap) (hc : Γ.cs = cs) (hf : cApp op fs σ = some v) (R : Rp G Γ mu s₀ σ ow s) (hm : RmG rm Γ A) (P : Shared → Prop) (hP : ∀ s', Rp G Γ mu s₀ σ ow s' → P s')
   (hQ : ∀ x s', VR s'.heap ow v x → Rp G Γ mu s₀ σ ow s' → Old tb s.heap s'.heap → Q x s') :
   wpAny (model PG G.w) A (spliced (backTo pos (starEach es Γ.env))) (fun xs s₁ => P s₁ ∧ wpAny (model PG G.w) A (call f xs) Q NoE s₁) NoE s := by
 refine wg fun P' bk => ?_
 obtain ⟨r, hr, rfl⟩ := Option.map_eq_some_iff.mp hf
 obtain ⟨vs, h1, h2⟩ := Option.bind_eq_some_iff.mp hr
 refine bk ?_
 refine hs G Γ mu s₀ σ ow s vs A pos _ hG hΓ hc h1 R hm fun xs s₁ rs R₁ o₁ => ⟨hP _ R₁, ?_⟩
 exact ho G Γ mu s₀ σ ow s₁ vs xs r A Q hG hΓ R₁ hm rs h2 fun y h' tk py o₂ ok₂ => hQ y _ py (R₁.step tk o₂ ok₂) (o₁.trans o₂)
theorem ES_callB (i : Nat) {x : Str} {id : String} {p pos : Pos} {e : PySem.Expr} {es : List PySem.Expr} {fs : St → Option (List V)} {op : St → List V → Option P} (B : Bn x (.builtin id)) (hx : cs.names[i]? = some (x, .globalImplicit)) (hs : ESs rm cs (e :: es) fs) (ho : OpA rm (.builtin id) op)
   (he : ∀ env, starEach (e :: es) env = (false, eval e env) :: starEach es env) (hp : ∀ env pos, (backTo pos (starEach es env)).any (·.1) = false) : ES rm cs (.Call (.Name x p) (e :: es) [] pos) (cApp op fs) := fun G Γ mu s₀ σ ow s v A Q hG hΓ hc hf R hm hQ => by
 with_reducible refine wpAny_Call_NameR ?_
 refine name_B i B hG hΓ (hc ▸ hx) R.ok ?_
 with_reducible refine PyProof.Rows.callWith_builtin1 ?_ (he _) (hp _ _)
 exact wpAny_mono (app_parts hs ho hG hΓ hc hf R hm (fun zz => True) (fun zz zz => trivial) hQ) (fun zz zz h => h.2) fun zz zz h => h
theorem ES_callT (i : Nat) {x : Str} {T : String} {p pos : Pos} {e : PySem.Expr} {es : List PySem.Expr} {fs : St → Option (List V)} {op : St → List V → Option P} (B : Bn x (.type T)) (hx : cs.names[i]? = some (x, .globalImplicit)) (hs : ESs rm cs (e :: es) fs) (ho : OpA rm (.type T) op)
   (he : ∀ env, starEach (e :: es) env = (false, eval e env) :: starEach es env) (hp : ∀ env pos, (backTo pos (starEach es env)).any (·.1) = false) : ES rm cs (.Call (.Name x p) (e :: es) [] pos) (cApp op fs) := fun G Γ mu s₀ σ ow s v A Q hG hΓ hc hf R hm hQ => by
 with_reducible refine wpAny_Call_NameR ?_
 refine name_B i B hG hΓ (hc ▸ hx) R.ok ?_
 with_reducible refine PyProof.Rows.callWith_type1 ?_ (he _) (hp _ _)
 exact wpAny_mono (app_parts hs ho hG hΓ hc hf R hm (fun zz => True) (fun zz zz => trivial) hQ) (fun zz zz h => h.2) fun zz zz h => h
structure FnK (x : Str) (f : Addr) : Prop where
 n : Gn x (.ref f)
 o : ∀ w, ∃ o fd, (KF w).lookup f = some o ∧ o.data = .func fd
theorem ES_callF (i : Nat) {x : Str} {f : Addr} {p pos : Pos} {e : PySem.Expr} {es : List PySem.Expr} {fs : St → Option (List V)} {op : St → List V → Option P} (B : FnK x f) (hx : cs.names[i]? = some (x, .globalImplicit)) (hs : ESs rm cs (e :: es) fs) (ho : OpA rm (.ref f) op)
   (he : ∀ env, starEach (e :: es) env = (false, eval e env) :: starEach es env) : ES rm cs (.Call (.Name x p) (e :: es) [] pos) (cApp op fs) := fun G Γ mu s₀ σ ow s v A Q hG hΓ hc hf R hm hQ => by
 with_reducible refine wpAny_Call_NameR ?_
 refine name_G i B.n hG hΓ (hc ▸ hx) R.ok ?_
 obtain ⟨o, fd, ho', hd⟩ := B.o G.w
 with_reducible refine callWith_def (o := o) (fd := fd) hd ?_ (he _)
 exact app_parts hs ho hG hΓ hc hf R hm (fun s => s.heap.get? f = some o) (fun s' R' => R'.ok.stay _ _ (hG.X _ _ ho')) hQ
noncomputable def lenA (σ : St) : List V → Option P
 | [v] => match seqOf σ v with
   | some xs => if xs.length ≤ 100000 then some (.int xs.length) else none
   | none => none
 | _ => none
theorem ok_len : OpA rm (.builtin "len") lenA := fun G Γ mu s₀ σ ow s vs xs r A Q hG hΓ R hm hv h hQ => by
 unfold lenA at h
 split at h
 · rename_i v
   obtain ⟨y, t, rfl, vy, rfl⟩ := hv
   split at h
   · rename_i zs hz
     split at h
     · rename_i hl
       obtain rfl := sij h
       obtain ⟨a, ys, rfl, q, p⟩ := seq_view R vy hz
       have hlen := p.len
       have e : (((List.toArray ys).size : Nat) : Int) = zs.length := by simp [hlen]
       rcases q with q | q
       · with_reducible refine len_list q ?_ ?_
         · rw [e]; lia
         · rw [e]; exact hQ _ s.heap _ ⟨_, rfl⟩ .refl R.ok
       · with_reducible refine len_tuple q ?_ ?_
         · rw [e]; lia
         · rw [e]; exact hQ _ s.heap _ ⟨_, rfl⟩ .refl R.ok
     · cases h
   · cases h
 · cases h
noncomputable def absA (σ : St) : List V → Option P
 | [.p (.int a)] => some (.int (if a < 0 then -a else a))
 | _ => none
theorem absA_inv {σ : St} {vs : List V} {r : P} (h : absA σ vs = some r) : ∃ a : Int, vs = [.p (.int a)] :=
 eC (F := fun o => absA σ o) (o := vs) h zr fun x1 l2 e3 h => eV (F := fun o => absA σ (o :: l2)) (o := x1) h zn fun x4 e5 h => eI (F := fun o => absA σ ((V.p o) :: l2)) (o := x4) h zr zn zn zn zn zn fun a e6 h => eN (F := fun o => absA σ ((V.p (P.int a)) :: o)) (o := l2) h zm fun e7 h => ⟨a, e3.trans (congr (congrArg List.cons (e5.trans (congrArg V.p (e6)))) (e7))⟩
theorem ok_abs : OpA rm (.builtin "abs") absA := fun G Γ mu s₀ σ ow s vs xs r A Q hG hΓ R hm hv h hQ => by
 obtain ⟨a, rfl⟩ := absA_inv h
 obtain rfl := sij h
 obtain ⟨y, t, rfl, ⟨u, rfl⟩, rfl⟩ := hv
 with_reducible refine call_abs_int ?_
 intro u tk
 exact hQ _ s.heap _ ⟨_, rfl⟩ .refl R.ok
noncomputable def strA (σ : St) : List V → Option P
 | [.p (.int a)] => if a.natAbs < 2 ^ 64 then some (.str (Str.ofString (toString a))) else none
 | _ => none
theorem strA_inv {σ : St} {vs : List V} {r : P} (h : strA σ vs = some r) : ∃ a : Int, vs = [.p (.int a)] :=
 eC (F := fun o => strA σ o) (o := vs) h zr fun x1 l2 e3 h => eV (F := fun o => strA σ (o :: l2)) (o := x1) h zn fun x4 e5 h => eI (F := fun o => strA σ ((V.p o) :: l2)) (o := x4) h zr zn zn zn zn zn fun a e6 h => eN (F := fun o => strA σ ((V.p (P.int a)) :: o)) (o := l2) h zm fun e7 h => ⟨a, e3.trans (congr (congrArg List.cons (e5.trans (congrArg V.p (e6)))) (e7))⟩
theorem ok_str : OpA rm (.type "str") strA := fun G Γ mu s₀ σ ow s vs xs r A Q hG hΓ R hm hv h hQ => by
 obtain ⟨a, rfl⟩ := strA_inv h
 obtain ⟨hl, h⟩ := ifS h
 obtain rfl := sij h
 obtain ⟨y, t, rfl, ⟨u, rfl⟩, rfl⟩ := hv
 with_reducible refine P.str_of_int ?_ ?_
 · by_cases h0 : a.natAbs = 0
   · rw [h0]; decide +kernel
   · have := (Nat.log2_lt h0).mpr hl
     exact m2 ‹_› (by decide)
 · exact hQ _ s.heap _ ⟨_, rfl⟩ .refl R.ok
noncomputable def isIntA (σ : St) : List V → Option P
 | [.p (.int a), .p (.raw (.type s))] => if s = "int" then some (.bool true) else none
 | _ => none
theorem isIntA_inv {σ : St} {vs : List V} {r : P} (h : isIntA σ vs = some r) : ∃ (a : Int) (s : String), vs = [.p (.int a), .p (.raw (.type s))] :=
 eC (F := fun o => isIntA σ o) (o := vs) h zr fun x1 l2 e3 h => eV (F := fun o => isIntA σ (o :: l2)) (o := x1) h zn fun x4 e5 h => eI (F := fun o => isIntA σ ((V.p o) :: l2)) (o := x4) h zr zn zn zn zn zn fun a e6 h => eC (F := fun o => isIntA σ ((V.p (P.int a)) :: o)) (o := l2) h zr fun x7 l8 e9 h => eV (F := fun o => isIntA σ ((V.p (P.int a)) :: (o :: l8))) (o := x7) h zn fun x10 e11 h => eR (F := fun o => isIntA σ ((V.p (P.int a)) :: ((V.p o) :: l8))) (o := x10) h zr zn zn zn zn zn fun x12 e13 h => eT (F := fun o => isIntA σ ((V.p (P.int a)) :: ((V.p (P.raw o)) :: l8))) (o := x12) h zr zr zr zn zm zm zm zm zn zn fun s e14 h => eN (F := fun o => isIntA σ ((V.p (P.int a)) :: ((V.p (P.raw (Value.type s))) :: o))) (o := l8) h zm fun e15 h => ⟨a, s, e3.trans (congr (congrArg List.cons (e5.trans (congrArg V.p (e6)))) (e9.trans (congr (congrArg List.cons (e11.trans (congrArg V.p (e13.trans (congrArg P.raw (e14)))))) (e15))))⟩
theorem ok_isInt : OpA rm (.builtin "isinstance") isIntA := fun G Γ mu s₀ σ ow s vs xs r A Q hG hΓ R hm hv h hQ => by
 obtain ⟨a, q, rfl⟩ := isIntA_inv h
 obtain ⟨rfl, h⟩ := ifS h
 obtain rfl := sij h
 obtain ⟨y, t, rfl, ⟨u, rfl⟩, z, t', rfl, hz, rfl⟩ := hv
 cases hz
 with_reducible refine IsiPair.int_int ?_
 exact hQ _ s.heap s.toks rfl .refl R.ok
noncomputable def divmodA (σ : St) : List V → Option P
 | [.p (.int a), .p (.int b)] => if b ≠ 0 ∧ b.natAbs < 2 ^ 64 then some (.tup [.int (a.fdiv b), .int (a.fmod b)]) else none
 | _ => none
theorem divmodA_inv {σ : St} {vs : List V} {r : P} (h : divmodA σ vs = some r) : ∃ a b : Int, vs = [.p (.int a), .p (.int b)] :=
 eC (F := fun o => divmodA σ o) (o := vs) h zr fun x1 l2 e3 h => eV (F := fun o => divmodA σ (o :: l2)) (o := x1) h zn fun x4 e5 h => eI (F := fun o => divmodA σ ((V.p o) :: l2)) (o := x4) h zr zn zn zn zn zn fun a e6 h => eC (F := fun o => divmodA σ ((V.p (P.int a)) :: o)) (o := l2) h zr fun x7 l8 e9 h => eV (F := fun o => divmodA σ ((V.p (P.int a)) :: (o :: l8))) (o := x7) h zn fun x10 e11 h => eI (F := fun o => divmodA σ ((V.p (P.int a)) :: ((V.p o) :: l8))) (o := x10) h zr zn zn zn zn zn fun b e12 h => eN (F := fun o => divmodA σ ((V.p (P.int a)) :: ((V.p (P.int b)) :: o))) (o := l8) h zm fun e13 h => ⟨a, b, e3.trans (congr (congrArg List.cons (e5.trans (congrArg V.p (e6)))) (e9.trans (congr (congrArg List.cons (e11.trans (congrArg V.p (e12)))) (e13))))⟩
theorem ok_divmod : OpA rm (.builtin "divmod") divmodA := fun G Γ mu s₀ σ ow s vs xs r A Q hG hΓ R hm hv h hQ => by
 obtain ⟨a, b, rfl⟩ := divmodA_inv h
 obtain ⟨hl, h⟩ := ifS h
 obtain rfl := sij h
 obtain ⟨y, t, rfl, ⟨u, rfl⟩, z, t', rfl, ⟨u', rfl⟩, rfl⟩ := hv
 with_reducible refine divmod_int hl.1 ?_ (.inl (pylong64 hl.2))
 refine hQ _ _ _ ⟨_, [_, _], rfl, IsTup.new _ _, ⟨_, _, rfl, ⟨_, rfl⟩, _, _, rfl, ⟨_, rfl⟩, rfl⟩⟩ (.push _) (R.ok.push _)
noncomputable def intsP : List P → Option (List Int)
 | [] => some []
 | .int a :: r => (intsP r).map (a :: ·)
 | _ :: _ => none
theorem PVs.ints {ok : Addr → Prop} {h : Heap} : ∀ {xs : List P} {ys : List Value} {ns : List Int}, PVs ok h xs ys → intsP xs = some ns → IntsAre ys ns := by
 intro xs
 induction xs with
 | nil =>
   intro ys ns q e
   simp only [intsP, Option.some.injEq] at e
   subst e
   simp only [PVs] at q
   subst q
   exact .nil
 | cons x r ih =>
   intro ys ns q e
   simp only [PVs] at q
   obtain ⟨y, t, rfl, e2, q⟩ := q
   cases x with
   | int a =>
     simp only [intsP] at e
     obtain ⟨ms, hn, rfl⟩ := Option.map_eq_some_iff.mp e
     obtain ⟨u, rfl⟩ := e2
     exact .cons _ _ (ih q hn)
   | _ => simp only [intsP] at e; cases e
noncomputable def sumA (σ : St) : List V → Option P
 | [v] => ((lstOf σ v).bind intsP).map fun ns => .int ns.sum
 | _ => none
theorem ok_sum : OpA rm (.builtin "sum") sumA := fun G Γ mu s₀ σ ow s vs xs r A Q hG hΓ R hm hv h hQ => by
 unfold sumA at h
 split at h
 · refine wg fun P' bk => ?_
   obtain ⟨ns, hn, rfl⟩ := Option.map_eq_some_iff.mp h
   obtain ⟨zs, hz, hi⟩ := Option.bind_eq_some_iff.mp hn
   obtain ⟨y, t, rfl, vy, rfl⟩ := hv
   obtain ⟨a, ys, rfl, q, p⟩ := lst_view R vy hz
   have I := p.ints hi
   obtain ⟨xs, hxs⟩ := I.allInts.items
   rw [hxs] at q
   refine bk ?_
   with_reducible refine sum_intListG hm.hd q ?_
   intro h' tk t' hk
   have e : preSum (numAt xs) xs.size = ns.sum := by
     have h1 := I.numsOf
     have h2 : (List.toArray ys).toList = ys := rfl
     rw [← h2, hxs, nums_intItems] at h1
     rw [preSum_eq, List.take_of_length_le (by simp), h1]
   rw [e]
   exact hQ _ h' _ ⟨_, rfl⟩ (.of hk) ⟨fun b o e => hk b o (R.ok.stay b o e), fun q hq => let ⟨ps, e, t, c⟩ := R.ok.tabs q hq; ⟨ps, hk _ _ e, t, fun pos cv hc => (c pos cv hc).keeps hk⟩⟩
 · cases h
end
inductive Fl where
 | next | brk | cont | ret (v : V)
noncomputable def FR (h : Heap) (ow : List Addr) : Fl → Flow → Prop
 | .next, f => f = .next
 | .brk, f => f = .brk
 | .cont, f => f = .cont
 | .ret v, f => ∃ y, f = .ret y ∧ VR h ow v y
structure Go (Γ : Fi) (ow : List Addr) (s : Shared) (ow' : List Addr) (s' : Shared) : Prop where
 ext : ∀ b o, ¬ Ft Γ ow b → s.heap.get? b = some o → s'.heap.get? b = some o
 live : ∀ b, s'.heap.get? b = none → s.heap.get? b = none
 pre : ow <+: ow'
 fresh : ∀ a ∈ ow', a ∈ ow ∨ s.heap.get? a = none
theorem Go.refl {Γ : Fi} {ow : List Addr} {s : Shared} : Go Γ ow s ow s := ⟨fun zz zz zz e => e, fun zz e => e, List.prefix_rfl, fun zz h => .inl h⟩
theorem Go.trans {Γ : Fi} {ow ow' ow'' : List Addr} {s s' s'' : Shared} (x : Go Γ ow s ow' s') (y : Go Γ ow' s' ow'' s'') : Go Γ ow s ow'' s'' := by
 refine ⟨fun b o hn e => y.ext b o (fun hf => ?_) (x.ext b o hn e), fun b e => x.live b (y.live b e), x.pre.trans y.pre, fun a ha => ?_⟩
 · rcases hf with h | h | h | h
   · exact hn (.inl h)
   · rcases x.fresh b h with h | h
     · exact hn (.inr (.inl h))
     · rw [e] at h; cases h
   · exact hn (.inr (.inr (.inl h)))
   · exact hn (.inr (.inr (.inr h)))
 · rcases y.fresh a ha with h | h
   · exact x.fresh a h
   · exact .inr (x.live a h)
theorem Go.of_old {G : Gd} {Γ : Fi} {ow : List Addr} {s s' : Shared} (o : Old tb s.heap s'.heap) (ok : G.at s'.heap) : Go Γ ow s ow s' :=
 ⟨fun b x hn e => o b x (fun h => hn (.inr (.inr (.inl h)))) e, fun b e => none_back o ok.tabs e, List.prefix_rfl, fun zz h => .inl h⟩
noncomputable def St.put (σ : St) (i : Nat) (v : V) : St := { σ with vals := σ.vals.set i (some v) }
noncomputable def St.set (σ : St) (i : Nat) (xs : List P) : St := { σ with own := σ.own.set i xs }
noncomputable def St.add (σ : St) (xs : List P) : St := { σ with own := σ.own ++ [xs] }
section
variable {G : Gd} {Γ : Fi} {mu : List Addr} {s₀ s : Shared} {σ : St} {ow : List Addr}
theorem Rp.L_off (R : Rp G Γ mu s₀ σ ow s) : Γ.L ∉ ow ∧ Γ.L ∉ tb := by
 refine wg fun P' bk => ?_
 obtain ⟨m, ⟨o, es, ep, e, hd, _⟩, _⟩ := R.m
 refine bk ?_
 refine ⟨fun h => ?_, fun h => ?_⟩
 · refine wg fun P' bk => ?_
   obtain ⟨i, hi, q⟩ := List.getElem_of_mem h
   have hl : i < σ.own.length := R.len ▸ hi
   obtain ⟨ys, n, e', _⟩ := R.own i ow[i] σ.own[i] (by simp [hi]) (by simp [hl])
   rw [q, e] at e'
   obtain rfl := sij e'
   refine bk ?_
   cases hd
 · refine wg fun P' bk => ?_
   obtain ⟨vs, q⟩ := tab_data R.ok.tabs h e
   refine bk ?_
   rw [hd] at q; cases q
theorem Rp.own_obj (R : Rp G Γ mu s₀ σ ow s) {a : Addr} (h : a ∈ ow) : ∃ ys n, s.heap.get? a = some (W.listOf (List.toArray ys) n) := by
 obtain ⟨i, hi, rfl⟩ := List.getElem_of_mem h
 have hl : i < σ.own.length := R.len ▸ hi
 obtain ⟨ys, n, e', _⟩ := R.own i ow[i] σ.own[i] (by simp [hi]) (by simp [hl])
 exact ⟨ys, n, e'⟩
theorem Rp.own_off (R : Rp G Γ mu s₀ σ ow s) {a : Addr} (h : a ∈ ow) : a ∉ tb ∧ a ≠ Γ.L := by
 refine ⟨fun q => ?_, fun q => R.L_off.1 (q ▸ h)⟩
 obtain ⟨ys, n, e⟩ := R.own_obj h
 have := tab_cls R.ok.tabs q e
 cases this
theorem Rp.turn (R : Rp G Γ mu s₀ σ ow s) (hΓ : Γ.Ok G mu s₀.heap) {h' : Heap} (tk : Nat) {b : Addr} {ob : Obj} (σ₁ : St) (hs : Heap.SameBut b s.heap h') (hb : s.heap.get? b = some ob)
   (hl : (∃ vs n, ob.data = .seq vs n) → ob.cls = .type "list" ∧ b ∈ ow) (ht : b ∉ tb) (hf : ∀ vs, ob.data = .fields vs → ∀ q t, vs[1]? ≠ some (.str q t)) (hfr : s₀.heap.objs.size ≤ b ∨ b ∈ mu)
   (hm : ∃ m, h'.Ns Γ.L m ∧ ∀ (i : Nat) x v, Γ.cs.names[i]? = some (x, .local) → σ₁.vals[i]? = some (some v) → ∃ y, m x = some y ∧ VR s.heap ow v y)
   (hcell : ∀ (i : Nat) x k v, Γ.cs.names[i]? = some (x, k) → (k = .cell ∨ k = .free) → σ₁.vals[i]? = some (some v) → ∃ c y, Γ.cl.lookup x = some c ∧ h'.IsCell c (some y) ∧ VR s.heap ow v y)
   (hcells : ∀ x c, Γ.cl.lookup x = some c → ∃ v₀, h'.IsCell c v₀) (hlen : σ₁.own.length = σ.own.length) (hky : σ₁.ky = σ.ky)
   (hown : ∀ (i : Nat) a xs, ow[i]? = some a → σ₁.own[i]? = some xs → ∃ ys n, h'.get? a = some (W.listOf (List.toArray ys) n) ∧ PVs (· ∉ ow) s.heap xs ys) : Rp G Γ mu s₀ σ₁ ow { s with heap := h', toks := tk } := by
 have kp : ∀ c o, s.heap.get? c = some o → (∃ vs n, o.data = .seq vs n) → (o.cls = .type "tuple" ∨ (o.cls = .type "list" ∧ c ∉ ow)) → h'.get? c = some o := fun c o e d q => by
   refine (hs.2 c fun hcb => ?_).trans e
   subst hcb
   rw [hb] at e; obtain rfl := sij e
   obtain ⟨h1, h2⟩ := hl d
   rcases q with q | ⟨q, q'⟩
   · rw [h1] at q; exact absurd q (by simp)
   · exact q' h2
 have pv : ∀ {v y}, VR s.heap ow v y → VR h' ow v y := fun {v y} q => by
   cases v with
   | p x => exact PV.mono kp (fun zz zz zz k => k) q
   | own i => exact q
 refine ⟨?_, ⟨fun c o e => ?_, fun q hq => ?_⟩, fun c o n e => ?_, ?_, fun i x k v a b' c => ?_, hcells, fun i a xs e1 e2 => ?_, R.len.trans hlen.symm, R.nd, R.owf, hky.trans R.ky, R.kl⟩
 · obtain ⟨h, t, e⟩ := R.sh
   exact ⟨h', tk, by rw [e]⟩
 · refine (hs.2 c fun hcb => ?_).trans (R.ok.stay c o e)
   subst hcb
   rcases hfr with q | q
   · exact absurd (hΓ.g0 _ _ e).1 (Nat.not_lt.mpr q)
   · exact (hΓ.g0 _ _ e).2 q
 · obtain ⟨ps, e, t, cc⟩ := R.ok.tabs q hq
   have hq' : q.1 ∈ tb := by
     simp only [tq, List.mem_cons, List.not_mem_nil, or_false] at hq
     rcases hq with rfl | rfl | rfl | rfl <;> decide
   refine ⟨ps, (hs.2 _ fun z => ht (z ▸ hq')).trans e, t, fun pos cv hc => ?_⟩
   obtain ⟨c, o, vs, t', e1, e2, e3, e4⟩ := cc pos cv hc
   refine ⟨c, o, vs, t', e1, (hs.2 c fun z => ?_).trans e2, e3, e4⟩
   subst z
   rw [hb] at e2; obtain rfl := sij e2
   exact hf _ e3 _ _ e4
 · by_cases hcb : c = b
   · subst hcb
     rcases hfr with q | q
     · exact absurd (Heap.lt_size e) (Nat.not_lt.mpr q)
     · exact absurd (List.mem_append_right _ q) n
   · exact (hs.2 c hcb).trans (R.old c o n e)
 · obtain ⟨m, hn, hm⟩ := hm
   exact ⟨m, hn, fun i x v a b => let ⟨y, e, r⟩ := hm i x v a b; ⟨y, e, pv r⟩⟩
 · obtain ⟨c', y, e, q, r⟩ := hcell i x k v a b' c
   exact ⟨c', y, e, q, pv r⟩
 · obtain ⟨ys, n, e, p⟩ := hown i a xs e1 e2
   exact ⟨ys, n, e, p.mono kp fun zz zz zz k => k⟩
theorem Go.turn {h' : Heap} {tk : Nat} {b : Addr} (hs : Heap.SameBut b s.heap h') (hb : Ft Γ ow b) {o' : Obj} (hl : h'.get? b = some o') : Go Γ ow s ow { s with heap := h', toks := tk } :=
 ⟨fun c o hn e => (hs.2 c fun q => hn (q ▸ hb)).trans e, fun c e => by
   by_cases q : c = b
   · subst q; rw [hl] at e; cases e
   · exact (hs.2 c q).symm.trans e, List.prefix_rfl, fun zz h => .inl h⟩
theorem names_inj : ∀ {l : List (Str × NameKind)} {i j : Nat} {x : Str} {k k' : NameKind}, (l.map (·.1)).Nodup → l[i]? = some (x, k) → l[j]? = some (x, k') → i = j
 | [], _, _, _, _, _, _, h, _ => by simp at h
 | _ :: _, 0, 0, _, _, _, _, _, _ => rfl
 | (y, q) :: l, 0, j + 1, x, k, k', nd, h1, h2 => by
   simp only [List.getElem?_cons_zero, Option.some.injEq, Prod.mk.injEq] at h1
   simp only [List.getElem?_cons_succ] at h2
   simp only [List.map_cons, List.nodup_cons] at nd
   exact absurd (List.mem_map.mpr ⟨_, List.mem_of_getElem? h2, h1.1.symm⟩) nd.1
 | (y, q) :: l, i + 1, 0, x, k, k', nd, h1, h2 => by
   simp only [List.getElem?_cons_zero, Option.some.injEq, Prod.mk.injEq] at h2
   simp only [List.getElem?_cons_succ] at h1
   simp only [List.map_cons, List.nodup_cons] at nd
   exact absurd (List.mem_map.mpr ⟨_, List.mem_of_getElem? h1, h2.1.symm⟩) nd.1
 | (y, q) :: l, i + 1, j + 1, x, k, k', nd, h1, h2 => by
   simp only [List.getElem?_cons_succ] at h1 h2
   simp only [List.map_cons, List.nodup_cons] at nd
   exact congrArg (· + 1) (names_inj nd.2 h1 h2)
theorem nodup_idx : ∀ {l : List Addr} {i j : Nat} {a : Addr}, l.Nodup → l[i]? = some a → l[j]? = some a → i = j
 | [], _, _, _, _, h, _ => by simp at h
 | _ :: _, 0, 0, _, _, _, _ => rfl
 | b :: l, 0, j + 1, a, nd, h1, h2 => by
   simp only [List.getElem?_cons_zero, Option.some.injEq] at h1
   simp only [List.getElem?_cons_succ] at h2
   exact absurd (h1 ▸ List.mem_of_getElem? h2) (List.nodup_cons.mp nd).1
 | b :: l, i + 1, 0, a, nd, h1, h2 => by
   simp only [List.getElem?_cons_zero, Option.some.injEq] at h2
   simp only [List.getElem?_cons_succ] at h1
   exact absurd (h2 ▸ List.mem_of_getElem? h1) (List.nodup_cons.mp nd).1
 | b :: l, i + 1, j + 1, a, nd, h1, h2 => by
   simp only [List.getElem?_cons_succ] at h1 h2
   exact congrArg (· + 1) (nodup_idx (List.nodup_cons.mp nd).2 h1 h2)
theorem put_get {σ : St} {i j : Nat} {v u : V} (h : (σ.put i v).vals[j]? = some (some u)) : (j = i ∧ u = v) ∨ (j ≠ i ∧ σ.vals[j]? = some (some u)) := by
 simp only [St.put, List.getElem?_set] at h
 split at h
 · rename_i e
   split at h
   · simp only [Option.some.injEq] at h; exact .inl ⟨e.symm, h.symm⟩
   · cases h
 · rename_i e
   exact .inr ⟨fun q => e q.symm, h⟩
theorem Rp.own_cell (R : Rp G Γ mu s₀ σ ow s) {a c : Addr} {v} (h : a ∈ ow) (hc : s.heap.IsCell c v) : a ≠ c := by
 rintro rfl
 obtain ⟨ys, n, e⟩ := R.own_obj h
 obtain ⟨o, e', hd⟩ := hc
 rw [e] at e'; cases e'; cases hd
theorem store_of {A : Around} {Q : Unit → Shared → Prop} {E} {v : V} {y : Value} (i : Nat) {x : Str} {k : NameKind} (R : Rp G Γ mu s₀ σ ow s) (hΓ : Γ.Ok G mu s₀.heap) (hx : Γ.cs.names[i]? = some (x, k)) (hk : k = .local ∨ k = .cell)
   (vy : VR s.heap ow v y) (hQ : ∀ s', Rp G Γ mu s₀ (σ.put i v) ow s' → Go Γ ow s ow s' → Q () s') : wpAny (model PG G.w) A (storeName Γ.env x y) Q E s := by
 rcases hk with rfl | rfl
 · obtain ⟨m, hn, hm⟩ := R.m
   obtain ⟨oL, es, ep, e, hd, _⟩ := id hn
   refine wpAny_storeName_local (hΓ.kind hx) hn (fun h' hn' hs => ?_) (by show (Γ.cs.kind == .class || (Γ.cs.kind == .module && Γ.L != mainGlobals)) = false; rw [hΓ.fn]; rfl)
   obtain ⟨oL', es', ep', e', hd', _⟩ := id hn'
   have hne : ∀ c v₀, s.heap.IsCell c v₀ → c ≠ Γ.L := fun c v₀ ⟨o, q, hq⟩ z => by rw [z, e] at q; cases q; rw [hd] at hq; cases hq
   refine hQ _ (R.turn hΓ _ (σ.put i v) hs e (fun ⟨vs, n, q⟩ => by rw [hd] at q; cases q) R.L_off.2 (by intro vs q; rw [hd] at q; cases q) (.inl hΓ.L) ⟨_, hn', fun j z u a b => ?_⟩ (fun j z k' u a hk' b => ?_) (fun z c q => ?_) rfl rfl fun j a xs e1 e2 => ?_) (Go.turn hs (.inl rfl) e')
   · rcases put_get b with ⟨rfl, rfl⟩ | ⟨hj, b⟩
     · rw [hx] at a; cases a
       exact ⟨y, by simp, vy⟩
     · obtain ⟨w, ew, r⟩ := hm j z u a b
       refine ⟨w, ?_, r⟩
       have : z ≠ x := fun q => hj (names_inj hΓ.nd (q ▸ a) hx)
       simp only [this, if_false]; exact ew
   · rcases put_get b with ⟨rfl, rfl⟩ | ⟨hj, b⟩
     · rw [hx] at a; cases a; rcases hk' with h | h <;> cases h
     · obtain ⟨c, w, q1, q2, r⟩ := R.c j z k' u a hk' b
       exact ⟨c, w, q1, q2.sameBut hs (hne _ _ q2), r⟩
   · obtain ⟨v₀, q2⟩ := R.cells z c q
     exact ⟨v₀, q2.sameBut hs (hne _ _ q2)⟩
   · obtain ⟨ys, n, q, p⟩ := R.own j a xs e1 e2
     exact ⟨ys, n, (hs.2 a (R.own_off (List.mem_of_getElem? e1)).2).trans q, p⟩
 · obtain ⟨c, hc⟩ := hΓ.cc x (hΓ.kd hx)
   obtain ⟨v₀, hv₀⟩ := R.cells x c hc
   obtain ⟨oc, ec, hdc⟩ := id hv₀
   refine wpAny_storeName_cell hΓ.fn (hΓ.kind hx) hc hv₀ fun h' hv' hs => ?_
   obtain ⟨oc', ec', hdc'⟩ := id hv'
   have hkd := hΓ.kd hx
   have hcL : Γ.L ≠ c := fun z => by
     obtain ⟨m, ⟨oL, es, ep, e, hd, _⟩, _⟩ := R.m
     rw [z, ec] at e; cases e; rw [hdc] at hd; cases hd
   refine hQ _ (R.turn hΓ _ (σ.put i v) hs ec (fun ⟨vs, n, q⟩ => by rw [hdc] at q; cases q) (fun q => by obtain ⟨vs, z⟩ := tab_data R.ok.tabs q ec; rw [hdc] at z; cases z) (by intro vs q; rw [hdc] at q; cases q) (.inl (hΓ.cf x c hkd hc)) ?_ (fun j z k' u a hk' b => ?_) (fun z d q => ?_) rfl rfl fun j a xs e1 e2 => ?_) (Go.turn hs (.inr (.inr (.inr ⟨x, hkd, hc⟩))) ec')
   · obtain ⟨m, hn, hm⟩ := R.m
     refine ⟨m, hn.sameBut hs hcL, fun j z u a b => ?_⟩
     rcases put_get b with ⟨rfl, rfl⟩ | ⟨hj, b⟩
     · rw [hx] at a; cases a
     · exact hm j z u a b
   · rcases put_get b with ⟨rfl, rfl⟩ | ⟨hj, b⟩
     · rw [hx] at a; cases a
       exact ⟨c, y, hc, hv', vy⟩
     · obtain ⟨d, w, q1, q2, r⟩ := R.c j z k' u a hk' b
       refine ⟨d, w, q1, q2.sameBut hs fun q => hj ?_, r⟩
       subst q
       have := hΓ.cd _ _ _ q1 hc
       subst this
       exact names_inj hΓ.nd a hx
   · by_cases hd' : d = c
     · subst hd'; exact ⟨_, hv'⟩
     · obtain ⟨v₁, q2⟩ := R.cells z d q
       exact ⟨v₁, q2.sameBut hs hd'⟩
   · obtain ⟨ys, n, q, p⟩ := R.own j a xs e1 e2
     exact ⟨ys, n, (hs.2 a (R.own_cell (List.mem_of_getElem? e1) hv₀)).trans q, p⟩
theorem Rp.mut (R : Rp G Γ mu s₀ σ ow s) (hΓ : Γ.Ok G mu s₀.heap) {i : Nat} {a : Addr} {xs : List P} {ys : List Value} {n : Nat} {h' : Heap} (tk : Nat) (ha : ow[i]? = some a) (hs : Heap.SameBut a s.heap h') (hn : h'.get? a = some (W.listOf (List.toArray ys) n))
   (hp : PVs (· ∉ ow) s.heap xs ys) : Rp G Γ mu s₀ (σ.set i xs) ow { s with heap := h', toks := tk } ∧ Go Γ ow s ow { s with heap := h', toks := tk } := by
 have hm := List.mem_of_getElem? ha
 obtain ⟨zs, k, e⟩ := R.own_obj hm
 refine ⟨R.turn hΓ tk (σ.set i xs) hs e (fun zz => ⟨rfl, hm⟩) (R.own_off hm).1 (by intro vs q; cases q) ((R.owf a hm).imp id id) ?_ (fun j z k' u c hk' b => ?_) (fun z c q => ?_) (by simp [St.set]) rfl (fun j b zs' e1 e2 => ?_), Go.turn hs (.inr (.inl hm)) hn⟩
 · obtain ⟨m, hn, hm'⟩ := R.m
   exact ⟨m, hn.sameBut hs (Ne.symm (R.own_off hm).2), hm'⟩
 · obtain ⟨d, w, q1, q2, r⟩ := R.c j z k' u c hk' b
   exact ⟨d, w, q1, q2.sameBut hs (Ne.symm (R.own_cell hm q2)), r⟩
 · obtain ⟨v₁, q2⟩ := R.cells z c q
   exact ⟨v₁, q2.sameBut hs (Ne.symm (R.own_cell hm q2))⟩
 · by_cases hab : b = a
   · subst hab
     have hji : j = i := by
       exact nodup_idx R.nd e1 ha
     subst hji
     have hj : j < σ.own.length := R.len ▸ (List.getElem?_eq_some_iff.mp e1).1
     simp only [St.set, List.getElem?_set_self hj, Option.some.injEq] at e2
     subst e2
     exact ⟨ys, n, hn, hp⟩
   · have hji : i ≠ j := fun q => by subst q; rw [ha] at e1; exact hab (sij e1).symm
     simp only [St.set, List.getElem?_set_ne hji] at e2
     obtain ⟨ys', n', q, p⟩ := R.own j b zs' e1 e2
     exact ⟨ys', n', (hs.2 b hab).trans q, p⟩
theorem Rp.add {s' : Shared} (R : Rp G Γ mu s₀ σ ow s) (R' : Rp G Γ mu s₀ σ ow s') {a : Addr} {xs : List P} (N : New ow s₀ s s' a xs) (o : Old tb s.heap s'.heap) : Rp G Γ mu s₀ (σ.add xs) (ow ++ [a]) s' ∧ Go Γ ow s (ow ++ [a]) s' := by
 have hk : ∀ b ob, s.heap.get? b = some ob → (∃ vs n, ob.data = .seq vs n) → (ob.cls = .type "tuple" ∨ (ob.cls = .type "list" ∧ b ∉ ow)) → s'.heap.get? b = some ob := fun b ob e d q => o.cls R.ok.tabs e (by rcases q with q | ⟨q, _⟩ <;> rw [q] <;> nofun)
 have hok : ∀ b ob, s.heap.get? b = some ob → b ∉ ow → b ∉ ow ++ [a] := fun b ob e h q => by
   rcases List.mem_append.mp q with q | q
   · exact h q
   · rw [List.mem_singleton.mp q, N.none] at e; cases e
 have pv : ∀ {v y}, VR s.heap ow v y → VR s'.heap (ow ++ [a]) v y := fun {v y} q => by
   cases v with
   | p x => exact PV.mono hk hok q
   | own i =>
     obtain ⟨b, hb, rfl⟩ := q
     exact ⟨b, by rw [List.getElem?_append_left (List.getElem?_eq_some_iff.mp hb).1]; exact hb, rfl⟩
 have hsub : ∀ {v y}, PVs (· ∉ ow) s'.heap v y → (∀ b ob, s'.heap.get? b = some ob → b ∉ ow → b ≠ a → b ∉ ow ++ [a]) := fun zz b ob e h1 h2 q => by
   rcases List.mem_append.mp q with q | q
   · exact h1 q
   · exact h2 (List.mem_singleton.mp q)
 refine ⟨⟨R'.sh, R'.ok, R'.old, ?_, fun i x k v e1 e2 e3 => ?_, R'.cells, fun i b zs e1 e2 => ?_, by simp [St.add, R.len], ?_, fun b hb => ?_, R.ky, fun h => ?_⟩, ⟨fun b ob hn e => o b ob (fun h => hn (.inr (.inr (.inl h)))) e, fun b e => none_back o R'.ok.tabs e, List.prefix_append _ _, fun b hb => ?_⟩⟩
 · obtain ⟨m, hn, hm⟩ := R.m
   exact ⟨m, o.ns R.ok.tabs hn, fun i x v e1 e2 => let ⟨y, e, r⟩ := hm i x v e1 e2; ⟨y, e, pv r⟩⟩
 · obtain ⟨c, y, q1, q2, r⟩ := R.c i x k v e1 e2 e3
   exact ⟨c, y, q1, o.cell R.ok.tabs q2, pv r⟩
 · by_cases hi : i < ow.length
   · rw [List.getElem?_append_left hi] at e1
     simp only [St.add] at e2
     rw [List.getElem?_append_left (R.len ▸ hi)] at e2
     obtain ⟨ys, n, q, p⟩ := R.own i b zs e1 e2
     exact ⟨ys, n, o.cls R.ok.tabs q nofun, p.mono hk hok⟩
   · have hi' : ow.length ≤ i := Nat.le_of_not_lt hi
     rw [List.getElem?_append_right hi'] at e1
     simp only [St.add] at e2
     rw [List.getElem?_append_right (R.len ▸ hi')] at e2
     have h0 : i - ow.length = 0 := by
       cases q : i - ow.length with
       | zero => rfl
       | succ n => rw [q] at e1; simp at e1
     rw [h0] at e1
     rw [← R.len, h0] at e2
     simp only [List.getElem?_cons_zero, Option.some.injEq] at e1 e2
     subst e1; subst e2
     obtain ⟨ys, n, q, p⟩ := N.there
     exact ⟨ys, n, q, p.mono (fun b o e zz zz => e) fun b o e k z => by
       rcases List.mem_append.mp z with z | z
       · exact k.1 z
       · exact k.2 (List.mem_singleton.mp z)⟩
 · exact List.nodup_append.mpr ⟨R.nd, by simp, fun x hx y hy => by rw [List.mem_singleton.mp hy]; rintro rfl; exact N.off hx⟩
 · rcases List.mem_append.mp hb with hb | hb
   · exact R.owf b hb
   · rw [List.mem_singleton.mp hb]; exact .inl N.above
 · rw [List.getElem?_append_left (List.getElem?_eq_some_iff.mp (R.kl h)).1]; exact R.kl h
 · rcases List.mem_append.mp hb with hb | hb
   · exact .inl hb
   · rw [List.mem_singleton.mp hb]; exact .inr N.none
end
noncomputable abbrev Post := Fl → St → Prop
noncomputable abbrev SW := St → Post → Prop
noncomputable def SS (rm : Nat) (cs : Scope) (ss : List Stmt) (W : SW) : Prop :=
 ∀ (G : Gd) (Γ : Fi) (mu : List Addr) (s₀ : Shared) (σ : St) (ow : List Addr) (s : Shared) (A : Around) (Po : Post) (Q : Flow → Shared → Prop),
   G.Ok → Γ.Ok G mu s₀.heap → Γ.cs = cs → W σ Po → Rp G Γ mu s₀ σ ow s → RmG rm Γ A →
   (∀ fl σ' ow' s' f, Po fl σ' → Rp G Γ mu s₀ σ' ow' s' → Go Γ ow s ow' s' → FR s'.heap ow' fl f → Q f s') →
   wpAny (model PG G.w) A (execs ss Γ.env) Q NoE s
noncomputable def S1 (rm : Nat) (cs : Scope) (st : Stmt) (W : SW) : Prop :=
 ∀ (G : Gd) (Γ : Fi) (mu : List Addr) (s₀ : Shared) (σ : St) (ow : List Addr) (s : Shared) (A : Around) (Po : Post) (Q : Flow → Shared → Prop),
   G.Ok → Γ.Ok G mu s₀.heap → Γ.cs = cs → W σ Po → Rp G Γ mu s₀ σ ow s → RmG rm Γ A →
   (∀ fl σ' ow' s' f, Po fl σ' → Rp G Γ mu s₀ σ' ow' s' → Go Γ ow s ow' s' → FR s'.heap ow' fl f → Q f s') →
   wpAny (model PG G.w) A (exec st Γ.env) Q NoE s
noncomputable def wNil : SW := fun σ Po => Po .next σ
noncomputable def andThen (W : SW) (Po : Post) : Post := fun fl σ => match fl with
 | .next => W σ Po
 | fl => Po fl σ
noncomputable def wSeq (W₁ W₂ : SW) : SW := fun σ Po => W₁ σ (andThen W₂ Po)
noncomputable def wSet (i : Nat) (f : St → Option V) : SW := fun σ Po => ∃ v, f σ = some v ∧ Po .next (σ.put i v)
noncomputable def wNew (i : Nat) (f : St → Option (List P)) : SW := fun σ Po => ∃ xs, f σ = some xs ∧ Po .next ((σ.add xs).put i (.own σ.own.length))
noncomputable def wAug (i : Nat) (op : P → P → Option P) (f : St → Option V) : SW := fun σ Po => ∃ a b r, σ.vals[i]? = some (some (.p a)) ∧ f σ = some (.p b) ∧ op a b = some r ∧ Po .next (σ.put i (.p r))
noncomputable def wIf (c : St → Option Bool) (W₁ W₂ : SW) : SW := fun σ Po => ∃ b, c σ = some b ∧ (if b = true then W₁ σ Po else W₂ σ Po)
noncomputable def wRet (f : St → Option V) : SW := fun σ Po => ∃ v, f σ = some v ∧ Po (.ret v) σ
noncomputable def wBrk : SW := fun σ Po => Po .brk σ
section
variable {rm : Nat} {cs : Scope}
theorem SS_nil : SS rm cs [] wNil := fun G Γ mu s₀ σ ow s A Po Q hG hΓ hc hW R hm hQ => by
 with_reducible refine wpAny_execs_nil ?_
 exact hQ .next σ ow s _ hW R .refl rfl
theorem SS_cons {st : Stmt} {ss : List Stmt} {W₁ W₂ : SW} (h₁ : S1 rm cs st W₁) (h₂ : SS rm cs ss W₂) : SS rm cs (st :: ss) (wSeq W₁ W₂) := fun G Γ mu s₀ σ ow s A Po Q hG hΓ hc hW R hm hQ => by
 with_reducible refine wpAny_execs_cons ?_
 refine h₁ G Γ mu s₀ σ ow s A _ _ hG hΓ hc hW R hm fun fl σ' ow' s' f hPo R' g hf => ?_
 cases fl with
 | next =>
   cases hf
   exact h₂ G Γ mu s₀ σ' ow' s' A Po Q hG hΓ hc hPo R' hm fun fl σ'' ow'' s'' f hPo R'' g' hf => hQ fl σ'' ow'' s'' f hPo R'' (g.trans g') hf
 | brk => cases hf; exact hQ .brk σ' ow' s' _ hPo R' g rfl
 | cont => cases hf; exact hQ .cont σ' ow' s' _ hPo R' g rfl
 | ret v => obtain ⟨y, rfl, vy⟩ := hf; exact hQ (.ret v) σ' ow' s' _ hPo R' g ⟨y, rfl, vy⟩
theorem S_set (i : Nat) {x : Str} {k : NameKind} {e : PySem.Expr} {p pos : Pos} {f : St → Option V} (hx : cs.names[i]? = some (x, k)) (hk : k = .local ∨ k = .cell) (he : ES rm cs e f)
   (hs : ∀ env : Env, env.scope = cs → swapsWith e (some (.Name x p)) pos.line env = pure false) : S1 rm cs (.Assign [.Name x p] e pos) (wSet i f) := fun G Γ mu s₀ σ ow s A Po Q hG hΓ hc hW R hm hQ => by
 obtain ⟨v, hv, hPo⟩ := hW
 with_reducible refine wpAny_Assign_Name ?_ (hs _ hc)
 refine he G Γ mu s₀ σ ow s v A _ hG hΓ hc hv R hm fun y s' vy R' o => ?_
 exact store_of i R' hΓ (hc ▸ hx) hk vy fun s'' R'' g => hQ .next _ ow s'' _ hPo R'' ((Go.of_old o R'.ok).trans g) rfl
theorem S_new (i : Nat) {x : Str} {k : NameKind} {e : PySem.Expr} {p pos : Pos} {f : St → Option (List P)} (hx : cs.names[i]? = some (x, k)) (hk : k = .local ∨ k = .cell) (he : NS rm cs e f)
   (hs : ∀ env : Env, env.scope = cs → swapsWith e (some (.Name x p)) pos.line env = pure false) : S1 rm cs (.Assign [.Name x p] e pos) (wNew i f) := fun G Γ mu s₀ σ ow s A Po Q hG hΓ hc hW R hm hQ => by
 obtain ⟨xs, hv, hPo⟩ := hW
 with_reducible refine wpAny_Assign_Name ?_ (hs _ hc)
 refine he G Γ mu s₀ σ ow s xs A _ hG hΓ hc hv R hm fun a s' N R' o => ?_
 obtain ⟨R₁, g₁⟩ := R.add R' N o
 exact store_of i R₁ hΓ (hc ▸ hx) hk (v := .own σ.own.length) ⟨a, by rw [← R.len]; simp, rfl⟩ fun s'' R'' g => hQ .next _ _ s'' _ hPo R'' (g₁.trans g) rfl
theorem S_aug (i : Nat) {x : Str} {k : NameKind} {e : PySem.Expr} {p pos : Pos} {o : Operator} {op : P → P → Option P} {f : St → Option V} (hx : cs.names[i]? = some (x, k)) (hk : k = .local ∨ k = .cell) (hn : okName x = true) (he : ES rm cs e f) (ho : Op2 rm (inplaceOp o) op) :
   S1 rm cs (.AugAssign (.Name x p) o e pos) (wAug i op f) := fun G Γ mu s₀ σ ow s A Po Q hG hΓ hc hW R hm hQ => by
 refine wg fun P' bk => ?_
 obtain ⟨a, b, r, ha, hb, hr, hPo⟩ := hW
 simp only [okName, Bool.and_eq_true, Bool.not_eq_true'] at hn
 refine bk ?_
 with_reducible refine wpAny_AugAssign_Name ?_
 refine loadName_of i hΓ (hc ▸ hx) (hk.elim .inl fun h => .inr (.inl h)) hn.2 ha R fun y vy => ?_
 refine he G Γ mu s₀ σ ow s _ A _ hG hΓ hc hb R hm fun z s₁ vz R₁ o₁ => ?_
 refine ho G _ s₁ a b r y z A _ hG R₁.ok hm.toRm (fun c hc hm => absurd (R₁.ow_lt c hm) (Nat.not_lt.mpr hc)) (PV.old o₁ R.ok.tabs vy) vz hr fun u h' tk pu o₂ ok₂ => ?_
 have R₂ := R₁.step tk o₂ ok₂
 exact store_of i R₂ hΓ (hc ▸ hx) hk (v := .p r) pu fun s'' R'' g => hQ .next _ ow s'' _ hPo R'' (((Go.of_old o₁ R₁.ok).trans (Go.of_old (s' := { s₁ with heap := h', toks := tk }) o₂ ok₂)).trans g) rfl
theorem S_if {t : PySem.Expr} {b o : List Stmt} {pos : Pos} {c : St → Option Bool} {W₁ W₂ : SW} (ht : CT rm cs t c) (hb : SS rm cs b W₁) (ho : SS rm cs o W₂) : S1 rm cs (.If t b o pos) (wIf c W₁ W₂) := fun G Γ mu s₀ σ ow s A Po Q hG hΓ hc hW R hm hQ => by
 obtain ⟨d, hd, hW⟩ := hW
 with_reducible refine wpAny_If ?_
 refine ht G Γ mu s₀ σ ow s d A _ hG hΓ hc hd R hm fun s' R' o' => ?_
 cases d with
 | true =>
   simp only [if_true] at hW ⊢
   exact hb G Γ mu s₀ σ ow s' A Po Q hG hΓ hc hW R' hm fun fl σ'' ow'' s'' f hPo R'' g' hf => hQ fl σ'' ow'' s'' f hPo R'' ((Go.of_old o' R'.ok).trans g') hf
 | false =>
   simp only [Bool.false_eq_true, if_false] at hW ⊢
   exact ho G Γ mu s₀ σ ow s' A Po Q hG hΓ hc hW R' hm fun fl σ'' ow'' s'' f hPo R'' g' hf => hQ fl σ'' ow'' s'' f hPo R'' ((Go.of_old o' R'.ok).trans g') hf
theorem S_ret {e : PySem.Expr} {pos : Pos} {f : St → Option V} (he : ES rm cs e f) : S1 rm cs (.Return (some e) pos) (wRet f) := fun G Γ mu s₀ σ ow s A Po Q hG hΓ hc hW R hm hQ => by
 obtain ⟨v, hv, hPo⟩ := hW
 with_reducible refine wpAny_Return_some ?_
 exact he G Γ mu s₀ σ ow s v A _ hG hΓ hc hv R hm fun y s' vy R' o => hQ (.ret v) σ ow s' _ hPo R' (Go.of_old o R'.ok) ⟨y, rfl, vy⟩
theorem S_retN {pos : Pos} : S1 rm cs (.Return none pos) (wRet (cK .none)) := fun G Γ mu s₀ σ ow s A Po Q hG hΓ hc hW R hm hQ => by
 obtain ⟨v, hv, hPo⟩ := hW
 obtain rfl := sij hv
 with_reducible refine wpAny_Return_none ?_
 exact hQ (.ret _) σ ow s _ hPo R .refl ⟨_, rfl, rfl⟩
theorem S_brk {pos : Pos} : S1 rm cs (.Break pos) wBrk := fun G Γ mu s₀ σ ow s A Po Q hG hΓ hc hW R hm hQ => by
 with_reducible refine wpAny_Break ?_
 exact hQ .brk σ ow s _ hW R .refl rfl
noncomputable def AT (rm : Nat) (cs : Scope) (t : PySem.Expr) (W : St → V → Option St) : Prop :=
 ∀ (G : Gd) (Γ : Fi) (mu : List Addr) (s₀ : Shared) (σ σ' : St) (ow : List Addr) (s : Shared) (v : V) (y : Value) (A : Around) (Q : Unit → Shared → Prop),
   G.Ok → Γ.Ok G mu s₀.heap → Γ.cs = cs → W σ v = some σ' → Rp G Γ mu s₀ σ ow s → RmG rm Γ A → VR s.heap ow v y →
   (∀ s', Rp G Γ mu s₀ σ' ow s' → Go Γ ow s ow s' → Q () s') → wpAny (model PG G.w) A (assign t Γ.env y) Q NoE s
theorem AT_name (i : Nat) {x : Str} {k : NameKind} {p : Pos} (hx : cs.names[i]? = some (x, k)) (hk : k = .local ∨ k = .cell) : AT rm cs (.Name x p) (fun σ v => some (σ.put i v)) := fun G Γ mu s₀ σ σ' ow s v y A Q hG hΓ hc hW R hm vy hQ => by
 obtain rfl := sij hW
 with_reducible refine wpAny_assign_Name ?_
 exact store_of i R hΓ (hc ▸ hx) hk vy fun s' R' g => hQ s' R' g
noncomputable def putAll : List Nat → List P → St → Option St
 | [], [], σ => some σ
 | i :: is, x :: xs, σ => putAll is xs (σ.put i (.p x))
 | _, _, _ => none
inductive Tgts (cs : Scope) : List PySem.Expr → List Nat → Prop
 | nil : Tgts cs [] []
 | cons {i : Nat} {x : Str} {k : NameKind} {p : Pos} {es : List PySem.Expr} {is : List Nat} : cs.names[i]? = some (x, k) → (k = .local ∨ k = .cell) → Tgts cs es is → Tgts cs (.Name x p :: es) (i :: is)
theorem assignEach_name {x : Str} {p : Pos} {es : List PySem.Expr} {env : Env} : assignEach (.Name x p :: es) env = (false, fun v => assign (.Name x p) env v) :: assignEach es env := rfl
theorem PVs.live {G : Gd} {Γ : Fi} {ow : List Addr} {s s' : Shared} (g : Go Γ ow s ow s') (hL : ∀ b o, Ft Γ ow b → s.heap.get? b = some o → (∃ vs n, o.data = .seq vs n) → b ∈ ow ∧ o.cls = .type "list") {xs : List P} {ys : List Value} (h : PVs (· ∉ ow) s.heap xs ys) : PVs (· ∉ ow) s'.heap xs ys :=
 h.mono (fun b o e d q => g.ext b o (fun hf => by
   obtain ⟨h1, h2⟩ := hL b o hf e d
   rcases q with q | ⟨q, q'⟩
   · rw [h2] at q; exact absurd q (by simp)
   · exact q' h1) e) fun zz zz zz k => k
theorem Rp.foot {G : Gd} {Γ : Fi} {mu : List Addr} {s₀ s : Shared} {σ : St} {ow : List Addr} (R : Rp G Γ mu s₀ σ ow s) : ∀ b o, Ft Γ ow b → s.heap.get? b = some o → (∃ vs n, o.data = .seq vs n) → b ∈ ow ∧ o.cls = .type "list" := fun b o hf e ⟨vs, n, d⟩ => by
 rcases hf with h | h | h | ⟨x, h1, h2⟩
 · obtain ⟨m, ⟨oL, es, ep, e', hd, _⟩, _⟩ := R.m
   subst h; rw [e] at e'; cases e'; rw [d] at hd; cases hd
 · obtain ⟨ys, k, e'⟩ := R.own_obj h
   rw [e] at e'; obtain rfl := sij e'
   exact ⟨h, rfl⟩
 · obtain ⟨vs', q⟩ := tab_data R.ok.tabs h e
   rw [d] at q; cases q
 · obtain ⟨v₀, oc, e', hd⟩ := R.cells x b h2
   rw [e] at e'; cases e'; rw [d] at hd; cases hd
theorem assign_all {es : List PySem.Expr} {is : List Nat} (T : Tgts cs es is) : ∀ {G : Gd} {Γ : Fi} {mu : List Addr} {s₀ : Shared} {σ σ' : St} {ow : List Addr} {s : Shared} {xs : List P} {ys : List Value} {A : Around} {Q : Unit → Shared → Prop},
   G.Ok → Γ.Ok G mu s₀.heap → Γ.cs = cs → putAll is xs σ = some σ' → Rp G Γ mu s₀ σ ow s → PVs (· ∉ ow) s.heap xs ys →
   (∀ s', Rp G Γ mu s₀ σ' ow s' → Go Γ ow s ow s' → Q () s') → wpAny (model PG G.w) A (assignInOrder ((assignEach es Γ.env).map (·.2)) ys) Q NoE s := by
 induction T with
 | nil =>
   intro G Γ mu s₀ σ σ' ow s xs ys A Q hG hΓ hc hW R hv hQ
   cases xs with
   | nil => obtain rfl := sij hW; exact wpAny_pure (hQ s R .refl)
   | cons x xs => cases hW
 | cons hx hk T ih =>
   rename_i i x k p es is
   intro G Γ mu s₀ σ σ' ow s xs ys A Q hG hΓ hc hW R hv hQ
   cases xs with
   | nil => cases hW
   | cons u us =>
     simp only [PVs] at hv
     obtain ⟨y, r, rfl, vy, vr⟩ := hv
     rw [assignEach_name, List.map_cons]
     with_reducible refine wpAny_assignInOrder_more ?_
     with_reducible refine wpAny_assign_Name ?_
     refine store_of i R hΓ (hc ▸ hx) hk (v := .p u) vy fun s' R' g => ?_
     exact ih hG hΓ hc hW R' (PVs.live (G := G) g R.foot vr) fun s'' R'' g' => hQ s'' R'' (g.trans g')
theorem assignEach_facts {es : List PySem.Expr} {is : List Nat} (T : Tgts cs es is) (env : Env) : (assignEach es env).length = is.length ∧ (assignEach es env).findIdx? (·.1) = none := by
 induction T with
 | nil => exact ⟨rfl, rfl⟩
 | cons hx hk T ih =>
   rw [assignEach_name]
   refine ⟨by simp [ih.1], ?_⟩
   rw [List.findIdx?_cons]
   simp [ih.2]
theorem putAll_len : ∀ {is : List Nat} {xs : List P} {σ σ' : St}, putAll is xs σ = some σ' → is.length = xs.length
 | [], [], _, _, _ => rfl
 | [], _ :: _, _, _, e => by cases e
 | _ :: _, [], _, _, e => by cases e
 | _ :: _, _ :: _, _, _, e => congrArg (· + 1) (putAll_len e)
theorem AT_tup {es : List PySem.Expr} {is : List Nat} {k : Nat} {pos : Pos} (T : Tgts cs es is) : AT rm cs (.Tuple es k pos) (fun σ v => (seqOf σ v).bind fun xs => putAll is xs σ) := fun G Γ mu s₀ σ σ' ow s v y A Q hG hΓ hc hW R hm vy hQ => by
 refine wg fun P' bk => ?_
 obtain ⟨xs, hx, hp⟩ := Option.bind_eq_some_iff.mp hW
 obtain ⟨a, ys, rfl, q, p⟩ := seq_view R vy hx
 have F := assignEach_facts T Γ.env
 have hlen : (assignEach es Γ.env).length = (List.toArray ys).size := by rw [F.1, putAll_len hp, List.size_toArray, p.len]
 refine bk ?_
 rw [assign_Tuple]
 refine wpAny_bind (wpAny_standAt ?_)
 unfold unpack
 rw [hlen, F.2]
 have fin : ∀ h' : Heap, Heap.ExtBut s.heap.objs.size s.heap h' → wpAny (model PG G.w) A (assignInOrder ((assignEach es Γ.env).map (·.2)) ys) Q NoE { s with heap := h' } := fun h' he => by
   have hk : ∀ b o, s.heap.get? b = some o → h'.get? b = some o := fun b o e => he b o (Nat.ne_of_lt (Heap.lt_size e)) e
   have o : Old tb s.heap h' := .of hk
   have ok : G.at h' := ⟨fun b o e => hk b o (R.ok.stay b o e), fun q hq => let ⟨ps, e, t, c⟩ := R.ok.tabs q hq; ⟨ps, hk _ _ e, t, fun pos cv hc => (c pos cv hc).keeps hk⟩⟩
   have R' := R.step s.toks o ok
   exact assign_all T hG hΓ hc hp R' (p.old o R.ok.tabs) fun s' R'' g => hQ s' R'' ((Go.of_old (s' := { s with heap := h', toks := s.toks }) o ok).trans g)
 rcases q with q | q
 · exact wpAny_bind (wpAny_holding (kun_itemsOf hm.hd q fin))
 · exact wpAny_bind (wpAny_holding (wpAny_unpackItems_tuple hm.hd q fin))
noncomputable def wUnp (is : List Nat) (f : St → Option V) : SW := fun σ Po => ∃ v xs σ', f σ = some v ∧ seqOf σ v = some xs ∧ putAll is xs σ = some σ' ∧ Po .next σ'
theorem S_unp {es : List PySem.Expr} {is : List Nat} {k : Nat} {tp pos : Pos} {e : PySem.Expr} {f : St → Option V} (T : Tgts cs es is) (he : ES rm cs e f)
   (h1 : ∀ env : Env, swapsWithSole [.Tuple es k tp] e pos.line env = pure false) (h2 : ∀ env : Env, swappedStores [.Tuple es k tp] e env = pure none) : S1 rm cs (.Assign [.Tuple es k tp] e pos) (wUnp is f) := fun G Γ mu s₀ σ ow s A Po Q hG hΓ hc hW R hm hQ => by
 refine wg fun P' bk => ?_
 obtain ⟨v, xs, σ', hv, hx, hp, hPo⟩ := hW
 refine bk ?_
 with_reducible refine Assign_Tuple ?_ (h1 _) (h2 _)
 refine he G Γ mu s₀ σ ow s v A _ hG hΓ hc hv R hm fun y s' vy R' o => ?_
 exact AT_tup (rm := rm) (k := k) (pos := tp) T G Γ mu s₀ σ σ' ow s' v y A _ hG hΓ hc (by show (seqOf σ v).bind _ = _; rw [hx]; exact hp) R' hm vy fun s'' R'' g => hQ .next σ' ow s'' _ hPo R'' ((Go.of_old o R'.ok).trans g) rfl
end
structure Side (ob : Obj) : Prop where
 d : ∃ vs, ob.data = .fields vs ∧ ∀ q t, vs[1]? ≠ some (.str q t)
 c : ob.cls ≠ .none
theorem Side.seq {ob : Obj} (S : Side ob) {vs n} : ob.data ≠ .seq vs n := fun e => by obtain ⟨us, q, _⟩ := S.d; rw [q] at e; cases e
theorem Side.dict {ob : Obj} (S : Side ob) {vs n} : ob.data ≠ .dict vs n := fun e => by obtain ⟨us, q, _⟩ := S.d; rw [q] at e; cases e
theorem Side.cell {ob : Obj} (S : Side ob) {v} : ob.data ≠ .cell v := fun e => by obtain ⟨us, q, _⟩ := S.d; rw [q] at e; cases e
section
variable {G : Gd} {Γ : Fi} {mu : List Addr} {s₀ s : Shared} {σ : St} {ow : List Addr}
theorem Rp.ext (R : Rp G Γ mu s₀ σ ow s) (hΓ : Γ.Ok G mu s₀.heap) {h' : Heap} (tk : Nat) {it : Addr} {ob : Obj} (hs : Heap.ExtBut it s.heap h') (hb : s.heap.get? it = some ob) (S : Side ob) (hfr : s₀.heap.objs.size ≤ it) : Rp G Γ mu s₀ σ ow { s with heap := h', toks := tk } := by
 have ne : ∀ {b o}, s.heap.get? b = some o → o ≠ ob → h'.get? b = some o := fun {b o} e q => hs b o (fun z => q (by subst z; rw [hb] at e; obtain rfl := sij e; rfl)) e
 have kp : ∀ b o, s.heap.get? b = some o → (∃ vs n, o.data = .seq vs n) → (o.cls = .type "tuple" ∨ (o.cls = .type "list" ∧ b ∉ ow)) → h'.get? b = some o := fun b o e ⟨vs, n, d⟩ _ => ne e fun z => S.seq (z ▸ d)
 have pv : ∀ {v y}, VR s.heap ow v y → VR h' ow v y := fun {v y} q => by
   cases v with
   | p x => exact PV.mono kp (fun zz zz zz k => k) q
   | own i => exact q
 have cl : ∀ {c v}, s.heap.IsCell c v → h'.IsCell c v := fun ⟨o, e, d⟩ => ⟨o, ne e fun z => S.cell (z ▸ d), d⟩
 refine ⟨?_, ⟨fun c o e => ?_, fun q hq => ?_⟩, fun c o n e => ?_, ?_, fun i x k v a b c => ?_, fun x c e => ?_, fun i a xs e1 e2 => ?_, R.len, R.nd, R.owf, R.ky, R.kl⟩
 · obtain ⟨h, t, e⟩ := R.sh
   exact ⟨h', tk, by rw [e]⟩
 · refine hs c o (fun z => ?_) (R.ok.stay c o e)
   subst z
   exact absurd (hΓ.g0 _ _ e).1 (Nat.not_lt.mpr hfr)
 · refine wg fun P' bk => ?_
   obtain ⟨ps, e, t, cc⟩ := R.ok.tabs q hq
   refine bk ?_
   refine ⟨ps, ne e fun z => S.c (z ▸ rfl), t, fun pos cv hc => ?_⟩
   refine wg fun P' bk => ?_
   obtain ⟨c, o, vs, t', e1, e2, e3, e4⟩ := cc pos cv hc
   refine bk ?_
   refine ⟨c, o, vs, t', e1, ne e2 fun z => ?_, e3, e4⟩
   refine wg fun P' bk => ?_
   obtain ⟨us, d1, d2⟩ := S.d
   subst z; rw [e3] at d1; cases d1
   refine bk ?_
   exact d2 _ _ e4
 · refine hs c o (fun z => ?_) (R.old c o n e)
   subst z
   exact absurd (Heap.lt_size e) (Nat.not_lt.mpr hfr)
 · obtain ⟨m, ⟨oL, es, ep, e, hd, r⟩, hm⟩ := R.m
   exact ⟨m, ⟨oL, es, ep, ne e fun z => S.dict (z ▸ hd), hd, r⟩, fun i x v a b => let ⟨y, e, r⟩ := hm i x v a b; ⟨y, e, pv r⟩⟩
 · obtain ⟨c', y, e, q, r⟩ := R.c i x k v a b c
   exact ⟨c', y, e, cl q, pv r⟩
 · obtain ⟨v, q⟩ := R.cells x c e
   exact ⟨v, cl q⟩
 · obtain ⟨ys, n, e, p⟩ := R.own i a xs e1 e2
   exact ⟨ys, n, ne e fun z => S.seq (vs := List.toArray ys) (n := n) (z ▸ rfl), p.mono kp fun zz zz zz k => k⟩
theorem Rp.off_foot (R : Rp G Γ mu s₀ σ ow s) {it : Addr} {ob : Obj} (hb : s.heap.get? it = some ob) (S : Side ob) : ¬ Ft Γ ow it := by
 rintro (h | h | h | ⟨x, h1, h2⟩)
 · obtain ⟨m, ⟨oL, es, ep, e, hd, _⟩, _⟩ := R.m
   subst h; rw [hb] at e; obtain rfl := sij e; exact S.dict hd
 · obtain ⟨ys, k, e⟩ := R.own_obj h
   rw [hb] at e; obtain rfl := sij e; exact S.seq rfl
 · exact S.c (tab_cls R.ok.tabs h hb)
 · obtain ⟨v₀, oc, e, hd⟩ := R.cells x it h2
   rw [hb] at e; obtain rfl := sij e; exact S.cell hd
theorem Go.skip {s₁ s₂ : Shared} {ow' : List Addr} (g : Go Γ ow s ow' s₁) {it : Addr} (hs : Heap.ExtBut it s₁.heap s₂.heap) (hn : s.heap.get? it = none) : Go Γ ow s ow' s₂ := by
 have ne : ∀ {b o}, s.heap.get? b = some o → b ≠ it := fun {b o} e z => by subst z; rw [hn] at e; cases e
 refine ⟨fun b o hf e => hs b o (ne e) (g.ext b o hf e), fun b e => ?_, g.pre, g.fresh⟩
 cases q : s.heap.get? b with
 | none => rfl
 | some o =>
   cases q' : s₁.heap.get? b with
   | none => rw [g.live b q'] at q; cases q
   | some o' => rw [hs b o' (ne q) q'] at e; cases e
end
noncomputable def wTurns (chk : St → Prop) (t : St → V → Option St) (W : SW) : List P → SW
 | [], σ, Po => Po .next σ
 | x :: xs, σ, Po => ∃ σ₁, t σ (.p x) = some σ₁ ∧ W σ₁ fun fl σ₂ => match fl with
   | .next => chk σ₂ ∧ wTurns chk t W xs σ₂ Po
   | .cont => chk σ₂ ∧ wTurns chk t W xs σ₂ Po
   | .brk => Po .next σ₂
   | .ret v => Po (.ret v) σ₂
structure Src (G : Gd) (Γ : Fi) (mu : List Addr) (s₀ : Shared) (A : Around) (it : Addr) (chk : St → Prop) (there : Heap → List Addr → List P → Prop) : Prop where
 obj : ∀ {h ow xs}, there h ow xs → ∃ ob, h.get? it = some ob ∧ Side ob
 go : ∀ {σ₁ ow₁ s₁ ow₂ s₂ xs}, Rp G Γ mu s₀ σ₁ ow₁ s₁ → Go Γ ow₁ s₁ ow₂ s₂ → there s₁.heap ow₁ xs → there s₂.heap ow₂ xs
 next : ∀ {σ₁ ow₁ s₁ x xs} {Q : Option Value → Shared → Prop}, Rp G Γ mu s₀ σ₁ ow₁ s₁ → chk σ₁ → there s₁.heap ow₁ (x :: xs) →
   (∀ y h' tk, PV (· ∉ ow₁) s₁.heap x y → Heap.ExtBut it s₁.heap h' → there h' ow₁ xs → Q (some y) { s₁ with heap := h', toks := tk }) → wpAny (model PG G.w) A (pyNext (.ref it)) Q NoE s₁
 stop : ∀ {σ₁ ow₁ s₁} {Q : Option Value → Shared → Prop}, Rp G Γ mu s₀ σ₁ ow₁ s₁ → chk σ₁ → there s₁.heap ow₁ [] →
   (∀ h' tk, Heap.ExtBut it s₁.heap h' → Q none { s₁ with heap := h', toks := tk }) → wpAny (model PG G.w) A (pyNext (.ref it)) Q NoE s₁
inductive FInv (G : Gd) (Γ : Fi) (mu : List Addr) (s₀ s : Shared) (ow : List Addr) (there : Heap → List Addr → List P → Prop) (chk : St → Prop) (at_ : St → V → Option St) (W : SW) (Po : Post) (n : Nat) (s' : Shared) : Prop
 | mk (xs : List P) (σ' : St) (ow' : List Addr) (h0 : n = xs.length) (h1 : there s'.heap ow' xs) (h2 : chk σ') (h3 : wTurns chk at_ W xs σ' Po) (h4 : Rp G Γ mu s₀ σ' ow' s') (h5 : Go Γ ow s ow' s') : FInv G Γ mu s₀ s ow there chk at_ W Po n s'
section
variable {rm : Nat} {cs : Scope}
theorem for_loop {G : Gd} {Γ : Fi} {mu : List Addr} {s₀ s s₁ : Shared} {σ : St} {ow : List Addr} {A : Around} {Po : Post} {R : Result → Shared → Prop} {t : PySem.Expr} {at_ : St → V → Option St} {b : List Stmt} {W : SW} {it : Addr} {chk : St → Prop} {xs : List P} {there : Heap → List Addr → List P → Prop}
   (hat : AT rm cs t at_) (hb : SS rm cs b W) (hck : ∀ σ v σ', at_ σ v = some σ' → chk σ → chk σ') (hG : G.Ok) (hΓ : Γ.Ok G mu s₀.heap) (hc : Γ.cs = cs) (hm : RmG rm Γ A) (hit : s₀.heap.objs.size ≤ it)
   (X : Src G Γ mu s₀ A it chk there) (hl : ∀ v, letOwnedTupleGo t (.ref it) v = pure ()) (h0 : there s₁.heap ow xs) (hk : chk σ) (hW : wTurns chk at_ W xs σ Po) (Rr : Rp G Γ mu s₀ σ ow s₁) (g0 : Go Γ ow s ow s₁) (hn : s.heap.get? it = none)
   (hR : ∀ fl σ' ow' s' f, Po fl σ' → (fl = .next ∨ ∃ v, fl = .ret v) → Rp G Γ mu s₀ σ' ow' s' → Go Γ ow s ow' s' → FR s'.heap ow' fl f → R (.ok f) s') :
   codeAny (model PG G.w) A (.forLoop t (.ref it) b [] Γ.env) R s₁ := by
 refine codeAny_forLoop (FInv G Γ mu s₀ s ow there chk at_ W Po) ?_ xs.length ⟨xs, σ, ow, rfl, h0, hk, hW, Rr, g0⟩ hl
 rintro n s' ⟨xs, σ', ow', rfl, ht, hk, hW, Rr, g⟩
 obtain ⟨ob, hob, S⟩ := X.obj ht
 cases xs with
 | nil =>
   refine wpAny_mono (X.stop Rr hk ht fun h' tk he => ?_) (fun zz zz h => h) fun zz zz h => h.elim
   with_reducible refine wpAny_execs_nil ?_
   have R' := Rr.ext hΓ tk he hob S hit
   exact hR .next σ' ow' _ _ hW (.inl rfl) R' (g.skip (s₂ := { s' with heap := h', toks := tk }) he hn) rfl
 | cons x xs =>
   obtain ⟨σ₁, h1, h2⟩ := hW
   refine wpAny_mono (X.next Rr hk ht fun y h' tk py he ht' => ?_) (fun zz zz h => h) fun zz zz h => h.elim
   have R' := Rr.ext hΓ tk he hob S hit
   have g' := g.skip (s₂ := { s' with heap := h', toks := tk }) he hn
   have py' : VR h' ow' (.p x) y := PV.mono (fun b o e ⟨vs, n, d⟩ _ => he b o (fun z => by subst z; rw [hob] at e; obtain rfl := sij e; exact S.seq d) e) (fun zz zz zz k => k) py
   refine wpAny_mono (hat G Γ mu s₀ σ' σ₁ ow' _ (.p x) y A (fun zz s₂ => _) hG hΓ hc h1 R' hm py' fun s₂ R₂ g₂ => ?_) (fun zz zz h => h) fun zz zz h => h.elim
   refine wpAny_mono (hb G Γ mu s₀ σ₁ ow' s₂ A _ (fun f s₃ => _) hG hΓ hc h2 R₂ hm fun fl σ₃ ow₃ s₃ f hPo R₃ g₃ hf => ?_) (fun zz zz h => h) fun zz zz h => h.elim
   have gg := (g'.trans g₂).trans g₃
   have tt := X.go R₂ g₃ (X.go R' g₂ ht')
   cases fl with
   | next =>
     cases hf
     exact ⟨xs.length, Nat.lt_succ_self _, xs, σ₃, ow₃, rfl, tt, hPo.1, hPo.2, R₃, gg⟩
   | cont =>
     cases hf
     exact ⟨xs.length, Nat.lt_succ_self _, xs, σ₃, ow₃, rfl, tt, hPo.1, hPo.2, R₃, gg⟩
   | brk =>
     cases hf
     exact hR .next σ₃ ow₃ s₃ _ hPo (.inl rfl) R₃ gg rfl
   | ret v =>
     obtain ⟨z, rfl, vz⟩ := hf
     exact hR (.ret v) σ₃ ow₃ s₃ _ hPo (.inr ⟨v, rfl⟩) R₃ gg ⟨z, rfl, vz⟩
end
theorem drop_cons {α : Type} {l : List α} {k : Nat} {x : α} {xs : List α} (h : x :: xs = l.drop k) : l[k]? = some x ∧ xs = l.drop (k + 1) := by
 have h1 : (l.drop k)[0]? = some x := by rw [← h]; rfl
 rw [List.getElem?_drop, Nat.add_zero] at h1
 refine ⟨h1, ?_⟩
 rw [show k + 1 = k + 1 from rfl, ← List.drop_drop (i := 1), ← h]
 rfl
theorem drop_nil {α : Type} {l : List α} {k : Nat} (h : [] = l.drop k) : l[k]? = none := by
 have h1 : (l.drop k)[0]? = none := by rw [← h]; rfl
 rw [List.getElem?_drop, Nat.add_zero] at h1
 exact h1
section
variable {G : Gd} {Γ : Fi} {mu : List Addr} {s₀ s : Shared} {σ : St} {ow : List Addr}
theorem PVs.go {ow' : List Addr} {s' : Shared} (R : Rp G Γ mu s₀ σ ow s) (g : Go Γ ow s ow' s') {xs : List P} {ys : List Value} (h : PVs (· ∉ ow) s.heap xs ys) : PVs (· ∉ ow') s'.heap xs ys :=
 h.mono (fun b o e d q => g.ext b o (fun hf => by
   obtain ⟨h1, h2⟩ := R.foot b o hf e d
   rcases q with q | ⟨q, q'⟩
   · rw [h2] at q; exact absurd q (by simp)
   · exact q' h1) e) fun b o e k z => by
     rcases g.fresh b z with h | h
     · exact k h
     · rw [e] at h; cases h
theorem side_listiter {it l : Addr} {k : Nat} {h : Heap} (x : h.IsListIter it l k) : ∃ ob, h.get? it = some ob ∧ Side ob := let ⟨o, e, c, d⟩ := x
 ⟨o, e, ⟨_, d, by simp⟩, by rw [c]; nofun⟩
theorem side_rangeiter {it : Addr} {a b c : Int} {h : Heap} (x : IsRangeIter h it a b c) : ∃ ob, h.get? it = some ob ∧ Side ob := ⟨_, x, ⟨_, rfl, by simp [rawInt]⟩, nofun⟩
theorem side_reviter {it l : Addr} {k : Int} {h : Heap} (x : h.IsRevIter it l k) : ∃ ob, h.get? it = some ob ∧ Side ob := let ⟨o, e, c, d⟩ := x
 ⟨o, e, ⟨_, d, by simp [rawInt]⟩, by rw [c]; nofun⟩
structure Still (h : Heap) (ow : List Addr) (l : Addr) (ys : List Value) (all : List P) : Prop where
 lst : h.IsList l (List.toArray ys)
 off : l ∉ ow
 v : PVs (· ∉ ow) h all ys
theorem Still.go {ow' : List Addr} {s' : Shared} {l ys all} (x : Still s.heap ow l ys all) (R : Rp G Γ mu s₀ σ ow s) (g : Go Γ ow s ow' s') : Still s'.heap ow' l ys all := by
 obtain ⟨o, e, hc, n, hd⟩ := x.lst
 refine ⟨⟨o, g.ext l o (fun hf => x.off (R.foot l o hf e ⟨_, n, hd⟩).1) e, hc, n, hd⟩, fun z => ?_, x.v.go R g⟩
 rcases g.fresh l z with h | h
 · exact x.off h
 · rw [e] at h; cases h
theorem Still.ext {h h' : Heap} {it : Addr} {ob : Obj} {l ys all} (x : Still h ow l ys all) (hs : Heap.ExtBut it h h') (hb : h.get? it = some ob) (S : Side ob) : Still h' ow l ys all := by
 obtain ⟨o, e, hc, n, hd⟩ := x.lst
 exact ⟨⟨o, hs l o (fun z => by subst z; rw [hb] at e; obtain rfl := sij e; exact S.seq hd) e, hc, n, hd⟩, x.off,
   x.v.mono (fun b o e ⟨vs, n, d⟩ _ => hs b o (fun z => by subst z; rw [hb] at e; obtain rfl := sij e; exact S.seq d) e) fun zz zz zz k => k⟩
theorem src_list {A : Around} {it l : Addr} {ys : List Value} {all : List P} (hh : A.handled = none) : Src G Γ mu s₀ A it (fun zz => True) (fun h ow xs => ∃ k, h.IsListIter it l k ∧ Still h ow l ys all ∧ xs = all.drop k) where
 obj := fun ⟨k, x, _⟩ => side_listiter x
 go := fun R g ⟨k, x, st, e⟩ => by
   obtain ⟨ob, hb, S⟩ := side_listiter x
   obtain ⟨o, e1, r⟩ := x
   exact ⟨k, ⟨o, g.ext _ _ (R.off_foot hb S) e1, r⟩, st.go R g, e⟩
 next := fun {σ₁ ow₁ s₁ x xs Q} R _ ⟨k, x, st, e⟩ hQ => by
   obtain ⟨e1, e2⟩ := drop_cons e
   obtain ⟨y, hy, py⟩ := st.v.get e1
   obtain ⟨ob, hb, S⟩ := side_listiter x
   with_reducible refine wpAny_pyNext_list_item (x := y) x st.lst (by simpa using hy) ?_
   intro h' hit hs
   exact hQ y h' _ py hs.extBut ⟨k + 1, hit, st.ext hs.extBut hb S, e2⟩
 stop := fun {σ₁ ow₁ s₁ Q} R _ ⟨k, x, st, e⟩ hQ => by
   with_reducible refine wpAny_pyNext_list_end hh x st.lst (by simpa using st.v.none (drop_nil e)) ?_
   intro h' hs
   exact hQ h' _ hs
theorem src_own {A : Around} {it l : Addr} {i : Nat} {all : List P} (hh : A.handled = none) : Src G Γ mu s₀ A it (fun σ => σ.own[i]? = some all) (fun h ow xs => ∃ k, h.IsListIter it l k ∧ ow[i]? = some l ∧ xs = all.drop k) where
 obj := fun ⟨k, x, _⟩ => side_listiter x
 go := fun R g ⟨k, x, st, e⟩ => by
   obtain ⟨ob, hb, S⟩ := side_listiter x
   obtain ⟨o, e1, r⟩ := x
   refine ⟨k, ⟨o, g.ext _ _ (R.off_foot hb S) e1, r⟩, ?_, e⟩
   obtain ⟨t, rfl⟩ := g.pre
   rw [List.getElem?_append_left (List.getElem?_eq_some_iff.mp st).1]
   exact st
 next := fun {σ₁ ow₁ s₁ x xs Q} R hk ⟨k, x, st, e⟩ hQ => by
   obtain ⟨e1, e2⟩ := drop_cons e
   obtain ⟨ys, n, q, p⟩ := R.own i l all st hk
   obtain ⟨y, hy, py⟩ := p.get e1
   have hq : s₁.heap.IsList l (List.toArray ys) := ⟨_, q, rfl, n, rfl⟩
   with_reducible refine wpAny_pyNext_list_item (x := y) x hq (by simpa using hy) ?_
   intro h' hit hs
   exact hQ y h' _ py hs.extBut ⟨k + 1, hit, st, e2⟩
 stop := fun {σ₁ ow₁ s₁ Q} R hk ⟨k, x, st, e⟩ hQ => by
   obtain ⟨ys, n, q, p⟩ := R.own i l all st hk
   have hq : s₁.heap.IsList l (List.toArray ys) := ⟨_, q, rfl, n, rfl⟩
   with_reducible refine wpAny_pyNext_list_end hh x hq (by simpa using p.none (drop_nil e)) ?_
   intro h' hs
   exact hQ h' _ hs
noncomputable def rangeP (a : Int) : Nat → List P
 | 0 => []
 | n + 1 => .int a :: rangeP (a + 1) n
theorem src_range {A : Around} {it : Addr} (hh : A.handled = none) : Src G Γ mu s₀ A it (fun zz => True) (fun h ow xs => ∃ a n, IsRangeIter h it a (n : Nat) 1 ∧ xs = rangeP a n) where
 obj := fun ⟨a, n, x, _⟩ => side_rangeiter x
 go := fun R g ⟨a, n, x, e⟩ => by
   obtain ⟨ob, hb, S⟩ := side_rangeiter x
   exact ⟨a, n, g.ext _ _ (R.off_foot hb S) x, e⟩
 next := fun {σ₁ ow₁ s₁ x xs Q} R hk ⟨a, n, x, e⟩ hQ => by
   cases n with
   | zero => cases e
   | succ n =>
     cases e
     with_reducible refine wpAny_pyNext_range_item x (by lia) ?_
     intro h' hit hs
     refine hQ _ h' _ ⟨_, rfl⟩ hs.extBut ⟨a + 1, n, ?_, rfl⟩
     have e : ((n + 1 : Nat) : Int) - 1 = (n : Nat) := by lia
     rw [e] at hit
     exact hit
 stop := fun {σ₁ ow₁ s₁ Q} R hk ⟨a, n, x, e⟩ hQ => by
   cases n with
   | succ n => cases e
   | zero =>
     with_reducible refine wpAny_pyNext_range_end hh x (by decide) ?_
     intro h' hs
     exact hQ h' _ hs
theorem src_rev {A : Around} {it l : Addr} {all : List P} {ys : List Value} (hh : A.handled = none) : Src G Γ mu s₀ A it (fun zz => True) (fun h ow xs => ∃ k, k ≤ all.length ∧ h.IsRevIter it l ((k : Int) - 1) ∧ Still h ow l ys all ∧ xs = (all.take k).reverse) where
 obj := fun ⟨k, _, x, _⟩ => side_reviter x
 go := fun R g ⟨k, hk, x, st, e⟩ => by
   obtain ⟨ob, hb, S⟩ := side_reviter x
   obtain ⟨o, e1, r⟩ := x
   exact ⟨k, hk, ⟨o, g.ext _ _ (R.off_foot hb S) e1, r⟩, st.go R g, e⟩
 next := fun {σ₁ ow₁ s₁ x xs Q} R _ ⟨k, hk, x, st, e⟩ hQ => by
   cases k with
   | zero => simp at e
   | succ k =>
     have hk' : k < all.length := hk
     rw [List.take_succ_eq_append_getElem hk', List.reverse_append] at e
     simp only [List.reverse_cons, List.reverse_nil, List.nil_append, List.singleton_append, List.cons.injEq] at e
     refine wg fun P' bk => ?_
     obtain ⟨e1, e2⟩ := e
     obtain ⟨y, hy, py⟩ := st.v.get (j := k) (p := all[k]) (by simp [hk'])
     obtain ⟨ob, hb, S⟩ := side_reviter x
     have ek : ((k + 1 : Nat) : Int) - 1 = (k : Nat) := by lia
     rw [ek] at x
     refine bk ?_
     refine wpAny_pyNext_rev_item (x := y) x st.lst (by simpa using hy) ?_
     intro h' hit hs
     rw [← e1] at py
     exact hQ y h' _ py hs.extBut ⟨k, Nat.le_of_lt hk', hit, st.ext hs.extBut hb S, e2⟩
 stop := fun {σ₁ ow₁ s₁ Q} R _ ⟨k, hk, x, st, e⟩ hQ => by
   cases k with
   | succ k =>
     have hk' : k < all.length := hk
     rw [List.take_succ_eq_append_getElem hk', List.reverse_append] at e
     simp at e
   | zero =>
     refine wpAny_pyNext_rev_end hh x ?_
     intro h' hs
     exact hQ h' _ hs
end
noncomputable def Calm (at_ : St → V → Option St) : Prop := ∀ σ v σ', at_ σ v = some σ' → σ'.own = σ.own
theorem calm_put {i : Nat} : Calm (fun σ v => some (σ.put i v)) := fun σ v σ' e => by obtain rfl := sij e; rfl
noncomputable def wFor (at_ : St → V → Option St) (f : St → Option V) (W : SW) : SW := fun σ Po => ∃ v, f σ = some v ∧ match v with
 | .p (.lst xs) => wTurns (fun zz => True) at_ W xs σ Po
 | .own i => ∃ xs, σ.own[i]? = some xs ∧ wTurns (fun σ => σ.own[i]? = some xs) at_ W xs σ Po
 | _ => False
noncomputable def wForR (at_ : St → V → Option St) (f : St → Option V) (W : SW) : SW := fun σ Po => ∃ n, f σ = some (.p (.int n)) ∧ (-(2 ^ 60) ≤ n ∧ n < 2 ^ 60) ∧ wTurns (fun zz => True) at_ W (rangeP 0 n.toNat) σ Po
noncomputable def wForRev (at_ : St → V → Option St) (f : St → Option V) (W : SW) : SW := fun σ Po => ∃ xs, f σ = some (.p (.lst xs)) ∧ wTurns (fun zz => True) at_ W xs.reverse σ Po
section
variable {rm : Nat} {cs : Scope}
theorem S_for {t e : PySem.Expr} {b : List Stmt} {pos : Pos} {at_ : St → V → Option St} {f : St → Option V} {W : SW} (hat : AT rm cs t at_) (hcalm : Calm at_) (he : ES rm cs e f) (hb : SS rm cs b W)
   (hs : ∀ env x, foldedSetIterable e env x = pure x) (hl : ∀ it v, letOwnedTupleGo t it v = pure ()) : S1 rm cs (.For t e b [] pos) (wFor at_ f W) := fun G Γ mu s₀ σ ow s A Po Q hG hΓ hc hW R hm hQ => by
 refine wg fun P' bk => ?_
 obtain ⟨v, hv, hW⟩ := hW
 refine bk ?_
 with_reducible refine wpAny_For ?_ (hs _)
 refine he G Γ mu s₀ σ ow s v A _ hG hΓ hc hv R hm fun y s₁ vy R₁ o₁ => ?_
 have g₁ : Go Γ ow s ow s₁ := Go.of_old o₁ R₁.ok
 cases v with
 | own i =>
   refine wg fun P' bk => ?_
   obtain ⟨xs, hx, hW⟩ := hW
   obtain ⟨l, hl', rfl⟩ := vy
   obtain ⟨ys, n, q, p⟩ := R₁.own i l xs hl' hx
   have hq : s₁.heap.IsList l (List.toArray ys) := ⟨_, q, rfl, n, rfl⟩
   refine bk ?_
   with_reducible refine wpAny_pyIter_list hq ?_
   refine for_loop (s := s) (there := fun h ow xs' => ∃ k, h.IsListIter s₁.heap.objs.size l k ∧ ow[i]? = some l ∧ xs' = xs.drop k) hat hb (fun σ v σ' h k => by rw [hcalm σ v σ' h]; exact k) hG hΓ hc hm (R₁.above hΓ) (src_own hm.hd) (hl _) ⟨0, ⟨_, Heap.get?_push_size _ rfl, rfl, rfl⟩, hl', rfl⟩ hx hW
     (R₁.step _ (.push _) (R₁.ok.push _)) (g₁.trans (Go.of_old (s' := { s₁ with heap := _ }) (.push _) (R₁.ok.push _))) (none_back o₁ R₁.ok.tabs (get_size _)) fun fl σ' ow' s' f hPo zz R' g' hf => hQ fl σ' ow' s' f hPo R' g' hf
 | p d => cases d with
   | lst xs =>
     simp only [VR, PV] at vy
     refine wg fun P' bk => ?_
     obtain ⟨l, ys, rfl, hoff, hq, p⟩ := vy
     refine bk ?_
     with_reducible refine wpAny_pyIter_list hq ?_
     refine for_loop (s := s) (there := fun h ow xs' => ∃ k, h.IsListIter s₁.heap.objs.size l k ∧ Still h ow l ys xs ∧ xs' = xs.drop k) hat hb (fun σ v σ' h k => k) hG hΓ hc hm (R₁.above hΓ) (src_list hm.hd) (hl _) ⟨0, ⟨_, Heap.get?_push_size _ rfl, rfl, rfl⟩, ⟨hq.push _, hoff, p.push⟩, rfl⟩ trivial hW
       (R₁.step _ (.push _) (R₁.ok.push _)) (g₁.trans (Go.of_old (s' := { s₁ with heap := _ }) (.push _) (R₁.ok.push _))) (none_back o₁ R₁.ok.tabs (get_size _)) fun fl σ' ow' s' f hPo zz R' g' hf => hQ fl σ' ow' s' f hPo R' g' hf
   | _ => exact hW.elim
theorem S_forR (i : Nat) {t e : PySem.Expr} {p rpos : Pos} {b : List Stmt} {pos : Pos} {at_ : St → V → Option St} {f : St → Option V} {W : SW} (B : Bn (Str.ofString "range") (.type "range")) (hx : cs.names[i]? = some (Str.ofString "range", .globalImplicit)) (hat : AT rm cs t at_) (he : ES rm cs e f) (hb : SS rm cs b W)
   (hn : ∀ env, starEach [e] env = [(false, eval e env)]) (hl : ∀ it v, letOwnedTupleGo t it v = pure ()) : S1 rm cs (.For t (.Call (.Name (Str.ofString "range") p) [e] [] rpos) b [] pos) (wForR at_ f W) := fun G Γ mu s₀ σ ow s A Po Q hG hΓ hc hW R hm hQ => by
 obtain ⟨n, hv, hlt, hW⟩ := hW
 with_reducible refine wpAny_For ?_ (fun x => rfl)
 with_reducible refine wpAny_Call_NameR ?_
 refine name_B i B hG hΓ (hc ▸ hx) R.ok ?_
 with_reducible refine PyProof.Rows.callWith_type1 ?_ (hn _) rfl
 with_reducible refine spliced_more ?_ (hn _)
 refine he G Γ mu s₀ σ ow s _ A _ hG hΓ hc hv R hm fun y s₁ vy R₁ o₁ => ?_
 obtain ⟨t', rfl⟩ := vy
 with_reducible refine spliced_none ?_
 have g₁ : Go Γ ow s ow s₁ := Go.of_old o₁ R₁.ok
 with_reducible refine call_range_1 ?_
 have R₂ := R₁.step (s₁.toks + 1 + 1) (Old.push { cls := .type "range", data := .fields #[.int 0 s₁.toks, .int n t', .int 1 (s₁.toks + 1)] }) (R₁.ok.push _)
 have g₂ := g₁.trans (Go.of_old (s' := { s₁ with heap := s₁.heap.push { cls := .type "range", data := .fields #[.int 0 s₁.toks, .int n t', .int 1 (s₁.toks + 1)] }, toks := s₁.toks + 1 + 1 }) (.push _) (R₁.ok.push _))
 have hsz : Builtin.Range.rangeSize 0 n 1 = (n.toNat : Int) := by rw [rangeSize_one]; split <;> lia
 refine wpAny_pyIter_range (IsRange.new _ _ _ _ _ _ _) (small_one (by exact r6) (by exact r6) (by lia) (by lia)) ?_
 refine for_loop (s := s) (there := fun h ow xs' => ∃ (a : Int) (k : Nat), IsRangeIter h (s₁.heap.push { cls := .type "range", data := .fields #[.int 0 s₁.toks, .int n t', .int 1 (s₁.toks + 1)] }).objs.size a (k : Int) 1 ∧ xs' = rangeP a k) hat hb (fun σ v σ' h k => k) hG hΓ hc hm (R₂.above hΓ) (src_range hm.hd) (hl _) ⟨0, n.toNat, ?_, rfl⟩ trivial hW
   (R₂.step _ (.push _) (R₂.ok.push _)) (g₂.trans (Go.of_old (.push _) (R₂.ok.push _))) (none_back (o₁.trans (.push _)) R₂.ok.tabs (get_size _)) fun fl σ' ow' s' f hPo zz R' g' hf => hQ fl σ' ow' s' f hPo R' g' hf
 rw [← hsz]
 exact Heap.get?_push_size _ rfl
theorem S_forRev (i : Nat) {t e : PySem.Expr} {p rpos : Pos} {b : List Stmt} {pos : Pos} {at_ : St → V → Option St} {f : St → Option V} {W : SW} (B : Bn (Str.ofString "reversed") (.type "reversed")) (hx : cs.names[i]? = some (Str.ofString "reversed", .globalImplicit)) (hat : AT rm cs t at_) (he : ES rm cs e f) (hb : SS rm cs b W)
   (hn : ∀ env, starEach [e] env = [(false, eval e env)]) (hl : ∀ it v, letOwnedTupleGo t it v = pure ()) : S1 rm cs (.For t (.Call (.Name (Str.ofString "reversed") p) [e] [] rpos) b [] pos) (wForRev at_ f W) := fun G Γ mu s₀ σ ow s A Po Q hG hΓ hc hW R hm hQ => by
 obtain ⟨xs, hv, hW⟩ := hW
 with_reducible refine wpAny_For ?_ (fun x => rfl)
 with_reducible refine wpAny_Call_NameR ?_
 refine name_B i B hG hΓ (hc ▸ hx) R.ok ?_
 with_reducible refine PyProof.Rows.callWith_type1 ?_ (hn _) rfl
 with_reducible refine spliced_more ?_ (hn _)
 refine he G Γ mu s₀ σ ow s _ A _ hG hΓ hc hv R hm fun y s₁ vy R₁ o₁ => ?_
 simp only [VR, PV] at vy
 obtain ⟨l, ys, rfl, hoff, hq, pv⟩ := vy
 with_reducible refine spliced_none ?_
 have g₁ : Go Γ ow s ow s₁ := Go.of_old o₁ R₁.ok
 refine call_reversed_list hq ?_
 have hlen : (List.toArray ys).size = xs.length := by simp [pv.len]
 have hit : (s₁.heap.push (revObj l (((List.toArray ys).size : Int) - 1))).IsRevIter s₁.heap.objs.size l ((xs.length : Int) - 1) := ⟨_, Heap.get?_push_size _ rfl, rfl, by rw [hlen]; rfl⟩
 refine wpAny_pyIter_revIter hit ?_
 exact for_loop (s := s) (there := fun h ow xs' => ∃ k, k ≤ xs.length ∧ h.IsRevIter s₁.heap.objs.size l ((k : Int) - 1) ∧ Still h ow l ys xs ∧ xs' = (xs.take k).reverse) hat hb (fun σ v σ' h k => k) hG hΓ hc hm (R₁.above hΓ) (src_rev hm.hd) (hl _) ⟨xs.length, Nat.le_refl _, hit, ⟨hq.push _, hoff, pv.push⟩, by simp⟩ trivial hW
   (R₁.step _ (.push _) (R₁.ok.push _)) (g₁.trans (Go.of_old (s' := { s₁ with heap := _ }) (.push _) (R₁.ok.push _))) (none_back o₁ R₁.ok.tabs (get_size _)) fun fl σ' ow' s' f hPo zz R' g' hf => hQ fl σ' ow' s' f hPo R' g' hf
noncomputable def whileW (c : St → Option Bool) (W : SW) : Nat → SW
 | 0 => fun zz zz => False
 | n + 1 => fun σ Po => ∃ b, c σ = some b ∧ if b = true then W σ (fun fl σ' => match fl with
     | .next => whileW c W n σ' Po
     | .cont => whileW c W n σ' Po
     | .brk => Po .next σ'
     | .ret v => Po (.ret v) σ') else Po .next σ
noncomputable def wWhile (c : St → Option Bool) (W : SW) : SW := fun σ Po => ∃ n, whileW c W n σ Po
theorem S_while {t : PySem.Expr} {b : List Stmt} {pos : Pos} {c : St → Option Bool} {W : SW} (ht : CT rm cs t c) (hb : SS rm cs b W) : S1 rm cs (.While t b [] pos) (wWhile c W) := fun G Γ mu s₀ σ ow s A Po Q hG hΓ hc hW R hm hQ => by
 refine wg fun P' bk => ?_
 obtain ⟨n, hW⟩ := hW
 refine bk ?_
 with_reducible refine wpAny_While ?_
 refine codeAny_whileLoop (fun n s' => ∃ σ' ow', whileW c W n σ' Po ∧ Rp G Γ mu s₀ σ' ow' s' ∧ Go Γ ow s ow' s') ?_ n ⟨σ, ow, hW, R, .refl⟩
 rintro n s' ⟨σ', ow', hW, R', g⟩
 cases n with
 | zero => exact hW.elim
 | succ n =>
   refine wg fun P' bk => ?_
   obtain ⟨d, hd, hW⟩ := hW
   refine bk ?_
   refine wpAny_mono (ht G Γ mu s₀ σ' ow' s' d A (fun b s₂ => _) hG hΓ hc hd R' hm fun s₂ R₂ o₂ => ?_) (fun zz zz h => h) fun zz zz h => h.elim
   have g₂ := g.trans (Go.of_old o₂ R₂.ok)
   cases d with
   | false =>
     simp only [Bool.false_eq_true, if_false] at hW ⊢
     with_reducible refine wpAny_execs_nil ?_
     exact hQ .next σ' ow' s₂ _ hW R₂ g₂ rfl
   | true =>
     dsimp only [if_true] at hW ⊢
     refine wpAny_mono (hb G Γ mu s₀ σ' ow' s₂ A _ (fun f s₃ => _) hG hΓ hc hW R₂ hm fun fl σ₃ ow₃ s₃ f hPo R₃ g₃ hf => ?_) (fun zz zz h => h) fun zz zz h => h.elim
     have gg := g₂.trans g₃
     cases fl with
     | next => cases hf; exact ⟨n, Nat.lt_succ_self _, σ₃, ow₃, hPo, R₃, gg⟩
     | cont => cases hf; exact ⟨n, Nat.lt_succ_self _, σ₃, ow₃, hPo, R₃, gg⟩
     | brk => cases hf; exact hQ .next σ₃ ow₃ s₃ _ hPo R₃ gg rfl
     | ret v => obtain ⟨z, rfl, vz⟩ := hf; exact hQ (.ret v) σ₃ ow₃ s₃ _ hPo R₃ gg ⟨z, rfl, vz⟩
end
noncomputable def XE (rm : Nat) (cs : Scope) (e : PySem.Expr) (F : St → Option (V × St)) : Prop :=
 ∀ (G : Gd) (Γ : Fi) (mu : List Addr) (s₀ : Shared) (σ : St) (ow : List Addr) (s : Shared) (v : V) (σ' : St) (A : Around) (Q : Value → Shared → Prop),
   G.Ok → Γ.Ok G mu s₀.heap → Γ.cs = cs → F σ = some (v, σ') → Rp G Γ mu s₀ σ ow s → RmG rm Γ A →
   (∀ x s', VR s'.heap ow v x → Rp G Γ mu s₀ σ' ow s' → Go Γ ow s ow s' → Q x s') →
   wpAny (model PG G.w) A (eval e Γ.env) Q NoE s
noncomputable def xOf (f : St → Option V) : St → Option (V × St) := fun σ => (f σ).map (·, σ)
noncomputable def MC (o : PySem.Expr) (name : Str) (ap : Pos) (args : List PySem.Expr) (pos : Pos) : Prop := ∀ env, ∃ pl, eval (.Call (.Attribute o name ap) args [] pos) env = do
 let ov ← eval o env
 standAt ap.atName
 let (f, first) ← holding [ov] (getMethod ov name pl)
 callWith pos f first (backTo pos (starEach args env)) []
theorem MC_of {x name : Str} {p ap pos : Pos} {args : List PySem.Expr} (h1 : (ap.endLine == pos.line) = true) (h2 : ∀ env, methodCallForm args.length (backTo pos (starEach args env)) [] = true) : MC (.Name x p) name ap args pos := fun env => by
 refine ⟨(do return (← importBound (.Name x p) env).getD true), ?_⟩
 have key : ∀ ov, methodCall (.Name x p) name ap pos env ov (args.length + 0) (backTo pos (starEach args env)) [] = (do
     let (f, first) ← holding [ov] (getMethod ov name (do return (← importBound (.Name x p) env).getD true))
     callWith pos f first (backTo pos (starEach args env)) []) := fun ov => by
   dsimp only [methodCall]
   rw [Nat.add_zero, h2]
   delta methodCallPos
   simp only [calleeOf, if_true, h1, Bool.or_true]
   rfl
 show (do let ov ← eval (.Name x p) env; standAt ap.atName; methodCall (.Name x p) name ap pos env ov (args.length + 0) (backTo pos (starEach args env)) []) = _
 simp only [key]
theorem Rp.own_at {G : Gd} {Γ : Fi} {mu : List Addr} {s₀ s : Shared} {σ : St} {ow : List Addr} (R : Rp G Γ mu s₀ σ ow s) {j : Nat} {xs : List P} (h : σ.own[j]? = some xs) : ∃ a ys n, ow[j]? = some a ∧ s.heap.get? a = some (W.listOf (List.toArray ys) n) ∧ PVs (· ∉ ow) s.heap xs ys := by
 have hj : j < ow.length := R.len ▸ (List.getElem?_eq_some_iff.mp h).1
 obtain ⟨ys, n, e, p⟩ := R.own j ow[j] xs (by simp [hj]) h
 exact ⟨ow[j], ys, n, by simp [hj], e, p⟩
theorem wpAny_exprNone {G : Gd} {Γ : Fi} {A : Around} {s : Shared} {e : PySem.Expr} {pos : Pos} {Q : Flow → Shared → Prop} (h : wpAny (model PG G.w) A (eval e Γ.env) (fun v s' => v = .none ∧ Q .next s') NoE s)
   (hi : interactive Γ.env = false) (hs : swapsWith e none pos.line Γ.env = pure false) : wpAny (model PG G.w) A (exec (.Expr e pos) Γ.env) Q NoE s :=
 wpAny_Expr (wpAny_mono h (fun v s' ⟨e, q⟩ => by subst e; exact q) fun zz zz h => h) hi hs
theorem inter {G : Gd} {Γ : Fi} {mu : List Addr} {h : Heap} (hΓ : Γ.Ok G mu h) : interactive Γ.env = false := by
 dsimp only [interactive]
 rw [show Γ.env.scope.kind = .function from hΓ.fn]
 rfl
section
variable {rm : Nat} {cs : Scope}
theorem XE_of {e : PySem.Expr} {f : St → Option V} (he : ES rm cs e f) : XE rm cs e (xOf f) := fun G Γ mu s₀ σ ow s v σ' A Q hG hΓ hc hf R hm hQ => by
 obtain ⟨u, hu, q⟩ := Option.map_eq_some_iff.mp hf
 cases q
 exact he G Γ mu s₀ σ ow s _ A Q hG hΓ hc hu R hm fun x s' vx R' o => hQ x s' vx R' (Go.of_old o R'.ok)
theorem list_word0 {G : Gd} {Γ : Fi} {mu : List Addr} {s₀ s : Shared} {σ : St} {ow : List Addr} {A : Around} {Q : Value → Shared → Prop} {x name : Str} {id : String} {p ap pos : Pos} {f : St → Option V} {j : Nat} {args : List PySem.Expr}
   (S : Slot "list" name id) (ht : typeOf (.builtin id) = pure (.type "method_descriptor")) (ho : ES rm cs (.Name x p) f) (hM : MC (.Name x p) name ap args pos)
   (hG : G.Ok) (hΓ : Γ.Ok G mu s₀.heap) (hc : Γ.cs = cs) (hf : f σ = some (.own j)) (R : Rp G Γ mu s₀ σ ow s) (hm : RmG rm Γ A)
   (hQ : ∀ a s', ow[j]? = some a → Rp G Γ mu s₀ σ ow s' → Go Γ ow s ow s' → wpAny (model PG G.w) A (callWith pos (.builtin id) [.ref a] (backTo pos (starEach args Γ.env)) []) Q NoE s') :
   wpAny (model PG G.w) A (eval (.Call (.Attribute (.Name x p) name ap) args [] pos) Γ.env) Q NoE s := by
 obtain ⟨pl, hpl⟩ := hM Γ.env
 refine MethodCall_ (pl := pl) ?_ hpl
 refine ho G Γ mu s₀ σ ow s _ A _ hG hΓ hc hf R hm fun ov s₁ vo R₁ o₁ => ?_
 obtain ⟨a, ha, rfl⟩ := vo
 obtain ⟨ys, n, el⟩ := R₁.own_obj (List.mem_of_getElem? ha)
 refine getMethod_list_of S ht (items := List.toArray ys) ⟨_, el, rfl, n, rfl⟩ ?_ ?_
 · exact ⟨_, el, rfl⟩
 exact hQ a s₁ ha R₁ (Go.of_old o₁ R₁.ok)
theorem list_word1 {G : Gd} {Γ : Fi} {mu : List Addr} {s₀ s : Shared} {σ σ' : St} {ow : List Addr} {A : Around} {Q : Value → Shared → Prop} {x name : Str} {id : String} {p ap pos : Pos} {e : PySem.Expr} {f : St → Option V} {F : St → Option (V × St)} {j : Nat} {v : V}
   (S : Slot "list" name id) (ht : typeOf (.builtin id) = pure (.type "method_descriptor")) (ho : ES rm cs (.Name x p) f) (he : XE rm cs e F) (hn : ∀ env, starEach [e] env = [(false, eval e env)]) (hM : MC (.Name x p) name ap [e] pos)
   (hG : G.Ok) (hΓ : Γ.Ok G mu s₀.heap) (hc : Γ.cs = cs) (hf : f σ = some (.own j)) (hF : F σ = some (v, σ')) (R : Rp G Γ mu s₀ σ ow s) (hm : RmG rm Γ A)
   (hQ : ∀ a y s', ow[j]? = some a → VR s'.heap ow v y → Rp G Γ mu s₀ σ' ow s' → Go Γ ow s ow s' → wpAny (model PG G.w) A (call (.builtin id) [.ref a, y]) Q NoE s') :
   wpAny (model PG G.w) A (eval (.Call (.Attribute (.Name x p) name ap) [e] [] pos) Γ.env) Q NoE s := by
 refine list_word0 S ht ho hM hG hΓ hc hf R hm fun a s₁ ha R₁ g₁ => ?_
 with_reducible refine callWith_method1 ?_ (hn _) rfl
 with_reducible refine spliced_more ?_ (hn _)
 refine he G Γ mu s₀ σ ow s₁ v σ' A _ hG hΓ hc hF R₁ hm fun y s₂ vy R₂ g₂ => ?_
 with_reducible refine spliced_none ?_
 exact hQ a y s₂ ha vy R₂ (g₁.trans g₂)
theorem Rp.upd {G : Gd} {Γ : Fi} {mu : List Addr} {s₀ s : Shared} {σ : St} {ow : List Addr} (R : Rp G Γ mu s₀ σ ow s) (hΓ : Γ.Ok G mu s₀.heap) {j : Nat} {a : Addr} {ys ys' : List Value} {xs' : List P} {n : Nat} (ha : ow[j]? = some a) (el : s.heap.get? a = some (W.listOf (List.toArray ys) n)) (f : Array Value → Array Value) (hf : f (List.toArray ys) = List.toArray ys')
   (p : PVs (· ∉ ow) s.heap xs' ys') : Rp G Γ mu s₀ (σ.set j xs') ow { s with heap := s.heap.update a (Obj.mapSeq f) } ∧ Go Γ ow s ow { s with heap := s.heap.update a (Obj.mapSeq f) } := by
 have q := PySem.IsL.update el f
 rw [hf] at q
 exact R.mut hΓ s.toks ha (Heap.SameBut.update ..) q p
noncomputable def wApp (f : St → Option V) (F : St → Option (V × St)) : SW := fun σ Po => ∃ j xs d σ', f σ = some (.own j) ∧ F σ = some (.p d, σ') ∧ σ'.own[j]? = some xs ∧ xs.length ≤ 1000 ∧ Po .next (σ'.set j (xs ++ [d]))
theorem S_app {x : Str} {p ap cpos pos : Pos} {e : PySem.Expr} {f : St → Option V} {F : St → Option (V × St)} (ho : ES rm cs (.Name x p) f) (he : XE rm cs e F) (hn : ∀ env, starEach [e] env = [(false, eval e env)]) (hM : MC (.Name x p) (Str.ofString "append") ap [e] cpos)
   (hs : ∀ env : Env, swapsWith (.Call (.Attribute (.Name x p) (Str.ofString "append") ap) [e] [] cpos) none pos.line env = pure false) : S1 rm cs (.Expr (.Call (.Attribute (.Name x p) (Str.ofString "append") ap) [e] [] cpos) pos) (wApp f F) := fun G Γ mu s₀ σ ow s A Po Q hG hΓ hc hW R hm hQ => by
 refine wg fun P' bk => ?_
 obtain ⟨j, xs, d, σ', hf, hF, hx, hl, hPo⟩ := hW
 refine bk ?_
 refine wpAny_exprNone ?_ (inter hΓ) (hs _)
 refine list_word1 PySem.F.slot_list_append type_list_append ho he hn hM hG hΓ hc hf hF R hm fun a y s' ha vy R' g => ?_
 refine wg fun P' bk => ?_
 obtain ⟨a', ys, n, ha', el, pv⟩ := R'.own_at hx
 refine bk ?_
 rw [ha] at ha'; obtain rfl := sij ha'
 with_reducible refine wpAny_list_append_plain (items := List.toArray ys) ?_ ?_ ?_
 · exact ⟨n, el⟩
 · intro h' ⟨n', e'⟩ hsb
   refine ⟨rfl, ?_⟩
   refine wg fun P' bk => ?_
   obtain ⟨R'', g'⟩ := R'.mut hΓ (xs := xs ++ [d]) (ys := ys ++ [y]) (n := n') (h' := h') s'.toks ha hsb (by rw [e']; simp) (pv.append ⟨y, [], rfl, vy, rfl⟩)
   refine bk ?_
   exact hQ .next _ ow _ _ hPo R'' (g.trans g') rfl
 · rw [sizeLine_eq]; simp [pv.len]; lia
noncomputable def xPop (f g : St → Option V) : St → Option (V × St) := fun σ => match f σ, g σ with
 | some (.own j), some (.p (.int k)) => (match σ.own[j]? with
   | some xs => if xs.length ≤ 1000 ∧ 0 ≤ k then (xs[k.toNat]?).map fun x => (.p x, σ.set j (xs.eraseIdx k.toNat)) else none
   | none => none)
 | _, _ => none
theorem xPop_inv {f g : St → Option V} {σ : St} {r : V × St} (h : xPop f g σ = some r) : ∃ j k xs, f σ = some (.own j) ∧ g σ = some (.p (.int k)) ∧ σ.own[j]? = some xs ∧ (if xs.length ≤ 1000 ∧ 0 ≤ k then (xs[k.toNat]?).map fun x => (V.p x, σ.set j (xs.eraseIdx k.toNat)) else none) = some r :=
 eO (F := fun o => xPop (fun _ => o) (fun _ => g σ) σ) (o := f σ) h zr fun x1 e2 h => eJ (F := fun o => xPop (fun _ => (some o)) (fun _ => g σ) σ) (o := x1) h zn fun j e3 h => eO (F := fun o => xPop (fun _ => (some (V.own j))) (fun _ => o) σ) (o := g σ) h zr fun x4 e5 h => eV (F := fun o => xPop (fun _ => (some (V.own j))) (fun _ => (some o)) σ) (o := x4) h zn fun x6 e7 h => eI (F := fun o => xPop (fun _ => (some (V.own j))) (fun _ => (some (V.p o))) σ) (o := x6) h zr zn zn zn zn zn fun k e8 h => eO (F := fun o => match o with | some xs => if xs.length ≤ 1000 ∧ 0 ≤ k then (xs[k.toNat]?).map fun x => (V.p x, σ.set j (xs.eraseIdx k.toNat)) else none | none => none) (o := σ.own[j]?) h zr fun xs e9 h => ⟨j, k, xs, e2.trans (congrArg some (e3)), e5.trans (congrArg some (e7.trans (congrArg V.p (e8)))), e9, h⟩
theorem XE_pop {x : Str} {p ap cpos : Pos} {e : PySem.Expr} {f g : St → Option V} (ho : ES rm cs (.Name x p) f) (he : ES rm cs e g) (hn : ∀ env, starEach [e] env = [(false, eval e env)]) (hM : MC (.Name x p) (Str.ofString "pop") ap [e] cpos) (ht : typeOf (.builtin "list.pop") = pure (.type "method_descriptor")) :
   XE rm cs (.Call (.Attribute (.Name x p) (Str.ofString "pop") ap) [e] [] cpos) (xPop f g) := fun G Γ mu s₀ σ ow s v σ' A Q hG hΓ hc hf R hm hQ => by
 obtain ⟨j, k, xs, h1, h2, hx, hf⟩ := xPop_inv hf
 obtain ⟨hl, hf⟩ := ifS hf
 ·
   ·
     ·
       obtain ⟨d, hd, q⟩ := Option.map_eq_some_iff.mp hf
       cases q
       refine list_word1 PySem.F.slot_list_pop ht ho (XE_of he) hn hM hG hΓ hc h1 (by show (g σ).map _ = _; rw [h2]; rfl) R hm fun a y s' ha vy R' g' => ?_
       obtain ⟨a', ys, n, ha', el, pv⟩ := R'.own_at hx
       rw [ha] at ha'; obtain rfl := sij ha'
       obtain ⟨t, rfl⟩ := vy
       obtain ⟨y, hy, py⟩ := pv.get hd
       have hkl : k.toNat < ys.length := (List.getElem?_eq_some_iff.mp hy).1
       have hlen := pv.len
       have e1 : seqIndex? k (List.toArray ys).size = some k.toNat := by
         dsimp only [seqIndex?]
         simp only [List.size_toArray]
         have e2 : (if k < 0 then k + (ys.length : Int) else k) = k := if_neg (by lia)
         simp only [e2]
         have e3 : (decide (0 ≤ k) && decide (k < (ys.length : Int))) = true := by simp; lia
         first | simp [e3] | (split <;> first | rfl | simp_all)
       refine call_meets PySem.F.slot_list_pop ⟨_, el, rfl⟩ PySem.F.entry_list_pop (PySem.F.args_list_pop_2 _ _) (PySem.MeetsSeq.list_pop_at a _ n k t k.toNat y ?_ e1 (by simpa using hy) (by rw [sizeLine_eq]; simp; lia)) ⟨el, ?_⟩
       · dsimp only [Builtin.List.listFitsIndex]
         simp; lia
       have hsplit : (List.toArray ys).eraseIdxIfInBounds k.toNat = List.toArray (ys.eraseIdx k.toNat) := by
         dsimp only [Array.eraseIdxIfInBounds]
         simp [hkl]
       have pe : PVs (· ∉ ow) s'.heap (xs.eraseIdx k.toNat) (ys.eraseIdx k.toNat) := by
         rw [List.eraseIdx_eq_take_drop_succ, List.eraseIdx_eq_take_drop_succ]
         exact pv.take.append pv.drop
       obtain ⟨R'', g''⟩ := R'.upd hΓ ha el (fun xs => xs.eraseIdxIfInBounds k.toNat) hsplit pe
       exact hQ y _ (pv.get hd |>.elim fun z ⟨hz, pz⟩ => by
         rw [hy] at hz; obtain rfl := sij hz
         have key := R'.foot
         exact PVs.live (G := G) g'' R'.foot (xs := [d]) (ys := [y]) ⟨y, [], rfl, py, rfl⟩ |>.elim fun u ⟨r, e, q, _⟩ => by cases e; exact q) R'' (g'.trans g'')
noncomputable def wRev (f : St → Option V) : SW := fun σ Po => ∃ j xs, f σ = some (.own j) ∧ σ.own[j]? = some xs ∧ xs.length ≤ 1000 ∧ Po .next (σ.set j xs.reverse)
theorem S_rev {x : Str} {p ap cpos pos : Pos} {f : St → Option V} (ho : ES rm cs (.Name x p) f) (hM : MC (.Name x p) (Str.ofString "reverse") ap [] cpos) (ht : typeOf (.builtin "list.reverse") = pure (.type "method_descriptor"))
   (hs : ∀ env : Env, swapsWith (.Call (.Attribute (.Name x p) (Str.ofString "reverse") ap) [] [] cpos) none pos.line env = pure false) : S1 rm cs (.Expr (.Call (.Attribute (.Name x p) (Str.ofString "reverse") ap) [] [] cpos) pos) (wRev f) := fun G Γ mu s₀ σ ow s A Po Q hG hΓ hc hW R hm hQ => by
 refine wg fun P' bk => ?_
 obtain ⟨j, xs, hf, hx, hl, hPo⟩ := hW
 refine bk ?_
 refine wpAny_exprNone ?_ (inter hΓ) (hs _)
 refine list_word0 PySem.F.slot_list_reverse ht ho hM hG hΓ hc hf R hm fun a s' ha R' g => ?_
 refine wg fun P' bk => ?_
 obtain ⟨a', ys, n, ha', el, pv⟩ := R'.own_at hx
 refine bk ?_
 rw [ha] at ha'; obtain rfl := sij ha'
 with_reducible refine callWith_method0 ?_
 refine call_meets PySem.F.slot_list_reverse ⟨_, el, rfl⟩ PySem.F.entry_list_reverse (PySem.F.args_list_reverse_1 _) (PySem.AutoSeq1.list_reverse_list_0 a _ n (by rw [sizeLine_eq]; simp [pv.len]; lia)) ⟨el, rfl, ?_⟩
 refine wg fun P' bk => ?_
 obtain ⟨R'', g''⟩ := R'.upd hΓ ha el (fun x => x.reverse) (ys' := ys.reverse) (by simp) pv.reverse
 refine bk ?_
 exact hQ .next _ ow _ _ hPo R'' (g.trans g'') rfl
noncomputable def wIns (f : St → Option V) (fs : St → Option (List V)) : SW := fun σ Po => ∃ j xs k d, f σ = some (.own j) ∧ fs σ = some [.p (.int k), .p d] ∧ σ.own[j]? = some xs ∧ xs.length ≤ 1000 ∧ 0 ≤ k ∧ k ≤ xs.length ∧ Po .next (σ.set j (xs.take k.toNat ++ d :: xs.drop k.toNat))
theorem S_ins {x : Str} {p ap cpos pos : Pos} {e e' : PySem.Expr} {f : St → Option V} {fs : St → Option (List V)} (ho : ES rm cs (.Name x p) f) (he : ESs rm cs [e, e'] fs) (hn : ∀ env, starEach [e, e'] env = (false, eval e env) :: starEach [e'] env) (hn' : ∀ env pos, (backTo pos (starEach [e'] env)).any (·.1) = false) (hM : MC (.Name x p) (Str.ofString "insert") ap [e, e'] cpos) (ht : typeOf (.builtin "list.insert") = pure (.type "method_descriptor"))
   (hs : ∀ env : Env, swapsWith (.Call (.Attribute (.Name x p) (Str.ofString "insert") ap) [e, e'] [] cpos) none pos.line env = pure false) : S1 rm cs (.Expr (.Call (.Attribute (.Name x p) (Str.ofString "insert") ap) [e, e'] [] cpos) pos) (wIns f fs) := fun G Γ mu s₀ σ ow s A Po Q hG hΓ hc hW R hm hQ => by
 refine wg fun P' bk => ?_
 obtain ⟨j, xs, k, d, hf, hF, hx, hl, h0, hk, hPo⟩ := hW
 refine bk ?_
 refine wpAny_exprNone ?_ (inter hΓ) (hs _)
 refine list_word0 PySem.F.slot_list_insert ht ho hM hG hΓ hc hf R hm fun a s₁ ha R₁ g₁ => ?_
 with_reducible refine callWith_method1 ?_ (hn _) (hn' _ _)
 refine he G Γ mu s₀ σ ow s₁ _ A _ _ hG hΓ hc hF R₁ hm fun zs s' vz R' o' => ?_
 refine wg fun P' bk => ?_
 obtain ⟨_, _, rfl, ⟨t, rfl⟩, y, _, rfl, vy, rfl⟩ := vz
 obtain ⟨a', ys, n, ha', el, pv⟩ := R'.own_at hx
 refine bk ?_
 rw [ha] at ha'; obtain rfl := sij ha'
 have hlen := pv.len
 refine call_meets PySem.F.slot_list_insert ⟨_, el, rfl⟩ PySem.F.entry_list_insert (PySem.F.args_list_insert_3 _ _ _) (PySem.AutoSeq1.list_insert_list_int_val_1 a _ n k t y ?_ (by rw [sizeLine_eq]; simp; lia)) ⟨el, rfl, ?_⟩
 · unfold Builtin.List.listFitsIndex
   simp; lia
 refine wg fun P' bk => ?_
 obtain ⟨R'', g''⟩ := R'.upd hΓ ha el (ys' := ys.take k.toNat ++ y :: ys.drop k.toNat) (xs' := xs.take k.toNat ++ d :: xs.drop k.toNat) (f := fun zs => (zs.extract 0 (if k < 0 then (k + (zs.size : Int)).toNat else min k.toNat zs.size)).push y ++ zs.extract (if k < 0 then (k + (zs.size : Int)).toNat else min k.toNat zs.size)) (by
     have e1 : (if k < 0 then (k + ((List.toArray ys).size : Int)).toNat else min k.toNat (List.toArray ys).size) = k.toNat := by
       rw [if_neg (by lia)]; simp; lia
     simp only [e1]
     rw [kl_ins_eq]) (pv.take.append ⟨y, _, rfl, vy, pv.drop⟩)
 refine bk ?_
 exact hQ .next _ ow _ _ hPo R'' ((g₁.trans (Go.of_old o' R'.ok)).trans g'') rfl
noncomputable def wExt (f : St → Option V) (g : St → Option (List P)) : SW := fun σ Po => ∃ j xs ds, f σ = some (.own j) ∧ g σ = some ds ∧ σ.own[j]? = some xs ∧ xs.length + ds.length ≤ 1000 ∧ Po .next (σ.set j (xs ++ ds))
theorem S_ext {x : Str} {p ap cpos pos : Pos} {e : PySem.Expr} {f : St → Option V} {g : St → Option (List P)} (ho : ES rm cs (.Name x p) f) (he : NS rm cs e g) (hn : ∀ env, starEach [e] env = [(false, eval e env)]) (hM : MC (.Name x p) (Str.ofString "extend") ap [e] cpos) (ht : typeOf (.builtin "list.extend") = pure (.type "method_descriptor"))
   (hs : ∀ env : Env, swapsWith (.Call (.Attribute (.Name x p) (Str.ofString "extend") ap) [e] [] cpos) none pos.line env = pure false) : S1 rm cs (.Expr (.Call (.Attribute (.Name x p) (Str.ofString "extend") ap) [e] [] cpos) pos) (wExt f g) := fun G Γ mu s₀ σ ow s A Po Q hG hΓ hc hW R hm hQ => by
 refine wg fun P' bk => ?_
 obtain ⟨j, xs, ds, hf, hF, hx, hl, hPo⟩ := hW
 refine bk ?_
 refine wpAny_exprNone ?_ (inter hΓ) (hs _)
 refine list_word0 PySem.F.slot_list_extend ht ho hM hG hΓ hc hf R hm fun a s₁ ha R₁ g₁ => ?_
 with_reducible refine callWith_method1 ?_ (hn _) rfl
 with_reducible refine spliced_more ?_ (hn _)
 refine he G Γ mu s₀ σ ow s₁ ds A _ hG hΓ hc hF R₁ hm fun b s' N R' o' => ?_
 with_reducible refine spliced_none ?_
 refine wg fun P' bk => ?_
 obtain ⟨a', ys, n, ha', el, pv⟩ := R'.own_at hx
 refine bk ?_
 rw [ha] at ha'; obtain rfl := sij ha'
 refine wg fun P' bk => ?_
 obtain ⟨zs, m, eb, pz⟩ := N.there
 have l1 := pv.len
 have l2 := pz.len
 refine bk ?_
 refine call_meets PySem.F.slot_list_extend ⟨_, el, rfl⟩ PySem.F.entry_list_extend (PySem.F.args_list_extend_2 _ _) (PySem.AutoSeq1.list_extend_list_list_0 a _ n b _ m ?_ (by rw [sizeLine_eq]; simp; lia) (by rw [sizeLine_eq]; simp; lia)) ⟨el, eb, rfl, ?_⟩
 · unfold Builtin.List.listTooLong
   rw [sizeLine_eq]
   simp; lia
 refine wg fun P' bk => ?_
 obtain ⟨R'', g''⟩ := R'.upd hΓ ha el (fun x => x ++ List.toArray zs) (ys' := ys ++ zs) (xs' := xs ++ ds) (by apply Array.toList_inj.mp; simp) (pv.append (pz.mono (fun b o e zz zz => e) fun zz zz zz k => k.1))
 refine bk ?_
 exact hQ .next _ ow _ _ hPo R'' ((g₁.trans (Go.of_old o' R'.ok)).trans g'') rfl
noncomputable def wSetAt (f g : St → Option V) (h : St → Option V) : SW := fun σ Po => ∃ j xs k d, h σ = some (.p d) ∧ f σ = some (.own j) ∧ g σ = some (.p (.int k)) ∧ σ.own[j]? = some xs ∧ 0 ≤ k ∧ k < xs.length ∧ xs.length ≤ 1000 ∧ Po .next (σ.set j (xs.set k.toNat d))
theorem PVs.set {ok : Addr → Prop} {h : Heap} {d : P} {y : Value} (py : PV ok h d y) : ∀ {xs : List P} {ys : List Value} (k : Nat), PVs ok h xs ys → PVs ok h (xs.set k d) (ys.set k y)
 | [], _, _, q => by rw [show _ = _ from q]; rfl
 | _ :: _, _, 0, q => by
   simp only [PVs] at q
   obtain ⟨z, r, rfl, a, b⟩ := q
   exact ⟨y, r, rfl, py, b⟩
 | _ :: _, _, k + 1, q => by
   simp only [PVs] at q
   obtain ⟨z, r, rfl, a, b⟩ := q
   exact ⟨z, _, rfl, a, PVs.set py k b⟩
theorem S_setAt {o i e : PySem.Expr} {sp pos : Pos} {f g h : St → Option V} (ho : ES rm cs o f) (hi : ES rm cs i g) (he : ES rm cs e h) (hs : ∀ env : Env, env.scope = cs → swapsWith e (some (.Subscript o i sp)) pos.line env = pure false) : S1 rm cs (.Assign [.Subscript o i sp] e pos) (wSetAt f g h) := fun G Γ mu s₀ σ ow s A Po Q hG hΓ hc hW R hm hQ => by
 refine wg fun P' bk => ?_
 obtain ⟨j, xs, k, d, hd, hf, hg, hx, h0, hk, hl, hPo⟩ := hW
 refine bk ?_
 refine wpAny_Assign_Subscript ?_ (hs _ hc)
 refine he G Γ mu s₀ σ ow s _ A _ hG hΓ hc hd R hm fun y s₁ vy R₁ o₁ => ?_
 refine ho G Γ mu s₀ σ ow s₁ _ A _ hG hΓ hc hf R₁ hm fun ov s₂ vo R₂ o₂ => ?_
 refine hi G Γ mu s₀ σ ow s₂ _ A _ hG hΓ hc hg R₂ hm fun iv s₃ vi R₃ o₃ => ?_
 refine wg fun P' bk => ?_
 obtain ⟨a, ha, rfl⟩ := vo
 obtain ⟨t, rfl⟩ := vi
 obtain ⟨a', ys, n, ha', el, pv⟩ := R₃.own_at hx
 refine bk ?_
 rw [ha] at ha'; obtain rfl := sij ha'
 have hlen := pv.len
 have py : PV (· ∉ ow) s₃.heap d y := PV.old o₃ R₂.ok.tabs (PV.old o₂ R₁.ok.tabs vy)
 refine wg fun P' bk => ?_
 obtain ⟨R'', g''⟩ := R₃.upd hΓ ha el (fun zs => zs.setIfInBounds k.toNat y) (ys' := ys.set k.toNat y) (xs' := xs.set k.toNat d) (by apply Array.toList_inj.mp; simp) (pv.set py k.toNat)
 refine bk ?_
 refine ki_setAt el h0 (by lia) (by simp; lia) ?_
 exact hQ .next _ ow _ _ hPo R'' (((Go.of_old o₁ R₁.ok).trans (Go.of_old o₂ R₂.ok)).trans ((Go.of_old o₃ R₃.ok).trans g'')) rfl
end
mutual
noncomputable def noLst : P → Bool
 | .lst _ => false
 | .tup xs => noLsts xs
 | _ => true
noncomputable def noLsts : List P → Bool
 | [] => true
 | x :: xs => noLst x && noLsts xs
end
mutual
theorem PV.any {ok ok' : Addr → Prop} {h : Heap} : ∀ {p : P} {v : Value}, noLst p = true → PV ok h p v → PV ok' h p v
 | .none, _, _, e => e
 | .bool _, _, _, e => e
 | .int _, _, _, e => e
 | .str _, _, _, e => e
 | .tup xs, _, n, e => by
   simp only [PV] at e ⊢
   obtain ⟨a, ys, rfl, q, r⟩ := e
   exact ⟨a, ys, rfl, q, PVs.any (by simpa [noLst] using n) r⟩
 | .lst xs, _, n, e => by simp [noLst] at n
 | .raw _, _, _, e => e
theorem PVs.any {ok ok' : Addr → Prop} {h : Heap} : ∀ {p : List P} {v : List Value}, noLsts p = true → PVs ok h p v → PVs ok' h p v
 | [], _, _, e => e
 | _ :: _, _, n, e => by
   simp only [PVs] at e ⊢
   obtain ⟨y, r, rfl, q, q'⟩ := e
   simp only [noLsts, Bool.and_eq_true] at n
   exact ⟨y, r, rfl, PV.any n.1 q, PVs.any n.2 q'⟩
end
noncomputable def outP (σ : St) : V → Option P
 | .p x => if noLst x = true then some x else none
 | .own i => (σ.own[i]?).bind fun xs => if noLsts xs = true then some (.lst xs) else none
noncomputable def Outs (r : P) : Post := fun fl σ => match fl with
 | .next => r = .none
 | .ret v => outP σ v = some r
 | _ => False
noncomputable def toP (σ : St) : V → Option P
 | .p x => some x
 | .own j => (σ.own[j]?).map .lst
noncomputable def toPs (σ : St) : List V → Option (List P)
 | [] => some []
 | v :: vs => match toP σ v, toPs σ vs with
   | some x, some xs => some (x :: xs)
   | _, _ => none
noncomputable def Fn (rm : Nat) (f : Addr) (op : List P → Option P) : Prop :=
 ∀ (G : Gd) (s : Shared) (xs : List P) (ys : List Value) (r : P) (A : Around) (Q : Value → Shared → Prop), G.Ok → G.at s.heap → Rm rm A → PVs (fun zz => True) s.heap xs ys → op xs = some r →
   (∀ y h' tk, PV (fun b => s.heap.objs.size ≤ b) h' r y → Old tb s.heap h' → G.at h' → Q y { s with heap := h', toks := tk }) → wpAny (model PG G.w) A (call (.ref f) ys) Q NoE s
noncomputable def opF (op : List P → Option P) : St → List V → Option P := fun σ vs => (toPs σ vs).bind op
section
variable {G : Gd} {Γ : Fi} {mu : List Addr} {s₀ s : Shared} {σ : St} {ow : List Addr}
theorem toP_view (R : Rp G Γ mu s₀ σ ow s) {v : V} {x : P} {y : Value} (h : VR s.heap ow v y) (e : toP σ v = some x) : PV (fun zz => True) s.heap x y := by
 cases v with
 | p d => obtain rfl := sij e; exact PV.mono (fun b o e zz zz => e) (fun zz zz zz zz => trivial) h
 | own j =>
   obtain ⟨xs, hx, rfl⟩ := Option.map_eq_some_iff.mp e
   obtain ⟨a, ha, rfl⟩ := h
   obtain ⟨ys, n, q, p⟩ := R.own j a xs ha hx
   simp only [PV]
   exact ⟨a, ys, rfl, trivial, ⟨_, q, rfl, n, rfl⟩, p.mono (fun b o e zz zz => e) fun zz zz zz zz => trivial⟩
theorem toPs_view (R : Rp G Γ mu s₀ σ ow s) : ∀ {vs : List V} {xs : List P} {ys : List Value}, VRs s.heap ow vs ys → toPs σ vs = some xs → PVs (fun zz => True) s.heap xs ys
 | [], _, _, h, e => by obtain rfl := sij e; exact h
 | v :: vs, _, _, ⟨y, r, e', a, b⟩, e => by
   dsimp only [toPs] at e
   split at e
   · rename_i x xs h1 h2
     obtain rfl := sij e
     exact ⟨y, r, e', toP_view R a h1, toPs_view R b h2⟩
   · cases e
end
theorem ok_fn {rm : Nat} {f : Addr} {op : List P → Option P} (h : Fn rm f op) : OpA rm (.ref f) (opF op) := fun G Γ mu s₀ σ ow s vs xs r A Q hG hΓ R hm hv ho hQ => by
 obtain ⟨ps, hp, ho⟩ := Option.bind_eq_some_iff.mp ho
 refine h G s ps xs r A Q hG R.ok hm.toRm (toPs_view R hv hp) ho fun y h' tk py o ok => ?_
 refine hQ y h' tk (py.mono (fun b o e zz zz => e) fun b ob e k z => ?_) o ok
 exact absurd (R.ow_lt b z) (Nat.not_lt.mpr k)
structure FnRec (f : Addr) (qual : Str) (params : Arguments) (body : List Stmt) (cs : Scope) (dV kV : Value) : Prop where
 o : ∀ w, ∃ oc od osl name doc pm an cdv ct, (KF w).lookup f = some ⟨oc, od, .func (fnX name qual params body cs [] dV kV doc pm an cdv ct), osl⟩ ∧ codeIn (KF w) cdv qual = true
noncomputable def TakesPos (qual : Str) (params : Arguments) (body : List Stmt) (cs : Scope) (dV kV : Value) (pn : List Str) : Prop :=
 ∀ (name : Str) (doc pm : Value) (an : Option Addr) (cdv ct : Value) (s : Shared) (ys : List Value), ys.length = pn.length → BindsTo s (fnX name qual params body cs [] dV kV doc pm an cdv ct) ⟨ys, []⟩ (pn.zip ys)
theorem lenS {α : Type} {ys : List α} {n : Nat} {P : List α → Prop} (h : ys.length = n + 1) (k : ∀ a l, l.length = n → P (a :: l)) : P ys := by obtain ⟨a, l, rfl⟩ := List.exists_cons_of_length_eq_add_one h; exact k a l (Nat.succ.inj h)
theorem len0 {α : Type} {ys : List α} {P : List α → Prop} (h : ys.length = 0) (k : P []) : P ys := by obtain rfl := List.eq_nil_of_length_eq_zero h; exact k
theorem len1 {α : Type} {ys : List α} {P : List α → Prop} (h : ys.length = 1) (k : ∀ a, P [a]) : P ys := by
 apply lenS (ys := ys) h
 intro a l h
 exact len0 (P := fun l => P (a :: l)) h (k a)
theorem len2 {α : Type} {ys : List α} {P : List α → Prop} (h : ys.length = 2) (k : ∀ a b, P [a, b]) : P ys := by
 apply lenS (ys := ys) h
 intro a l h
 exact len1 (P := fun l => P (a :: l)) h (k a)
theorem len3 {α : Type} {ys : List α} {P : List α → Prop} (h : ys.length = 3) (k : ∀ a b c, P [a, b, c]) : P ys := by
 apply lenS (ys := ys) h
 intro a l h
 exact len2 (P := fun l => P (a :: l)) h (k a)
theorem takesK1 {qual : Str} {params : Arguments} {body : List Stmt} {cs : Scope} {dV kV : Value} {a : Str} (h : ∀ (name : Str) (doc pm : Value) (an : Option Addr) (cdv ct : Value) (s : Shared) (y0 : Value), BindsTo s (fnX name qual params body cs [] dV kV doc pm an cdv ct) ⟨[y0], []⟩ ([a].zip [y0])) : TakesPos qual params body cs dV kV [a] :=
 fun name doc pm an cdv ct s ys hl => by
 apply len1 (ys := ys) hl
 exact fun y0 => h name doc pm an cdv ct s y0
theorem takesK2 {qual : Str} {params : Arguments} {body : List Stmt} {cs : Scope} {dV kV : Value} {a b : Str} (h : ∀ (name : Str) (doc pm : Value) (an : Option Addr) (cdv ct : Value) (s : Shared) (y0 y1 : Value), BindsTo s (fnX name qual params body cs [] dV kV doc pm an cdv ct) ⟨[y0, y1], []⟩ ([a, b].zip [y0, y1])) : TakesPos qual params body cs dV kV [a, b] :=
 fun name doc pm an cdv ct s ys hl => by
 apply len2 (ys := ys) hl
 exact fun y0 y1 => h name doc pm an cdv ct s y0 y1
theorem takesK3 {qual : Str} {params : Arguments} {body : List Stmt} {cs : Scope} {dV kV : Value} {a b c : Str} (h : ∀ (name : Str) (doc pm : Value) (an : Option Addr) (cdv ct : Value) (s : Shared) (y0 y1 y2 : Value), BindsTo s (fnX name qual params body cs [] dV kV doc pm an cdv ct) ⟨[y0, y1, y2], []⟩ ([a, b, c].zip [y0, y1, y2])) : TakesPos qual params body cs dV kV [a, b, c] :=
 fun name doc pm an cdv ct s ys hl => by
 apply len3 (ys := ys) hl
 exact fun y0 y1 y2 => h name doc pm an cdv ct s y0 y1 y2
theorem zip_lookup : ∀ {pn : List Str} {ys : List Value} {i : Nat} {x : Str}, pn.Nodup → pn[i]? = some x → ys.length = pn.length → (pn.zip ys).reverse.lookup x = ys[i]? := by
 intro pn
 induction pn with
 | nil => intro ys i x _ h; simp at h
 | cons p pn ih =>
   intro ys i x nd h hl
   cases ys with
   | nil => simp at hl
   | cons y ys =>
     simp only [List.zip_cons_cons, List.reverse_cons]
     rw [List.lookup_append]
     simp only [List.nodup_cons] at nd
     cases i with
     | zero =>
       simp only [List.getElem?_cons_zero, Option.some.injEq] at h
       subst h
       have : (pn.zip ys).reverse.lookup p = none := by
         rw [List.lookup_eq_none_iff]
         intro q hq
         have hq' := List.mem_reverse.mp hq
         have : q.1 ∈ pn := (List.of_mem_zip (a := q.1) (b := q.2) hq').1
         simp only [bne_iff_ne, ne_eq, beq_eq_false_iff_ne]
         intro z
         exact nd.1 (z ▸ this)
       rw [this]
       simp [List.lookup_cons]
     | succ i =>
       simp only [List.getElem?_cons_succ] at h ⊢
       rw [ih nd.2 h (by simpa using hl)]
       have : i < ys.length := by
         have := (List.getElem?_eq_some_iff.mp h).1
         simp at hl
         lia
       simp [this]
noncomputable def Gd.off (G : Gd) : Gd := { G with ky := Ky.no }
theorem Gd.at.off {G : Gd} {h : Heap} (x : G.off.at h) : G.at h := ⟨x.stay, x.tabs⟩
theorem Gd.at.of {G : Gd} {h : Heap} (x : G.at h) : G.off.at h := ⟨x.stay, x.tabs⟩
theorem Gd.Ok.off {G : Gd} (x : G.Ok) : G.off.Ok := ⟨x.X, x.g, x.b, x.bl, x.nolimit, x.nodigits, x.bmain, x.code, x.notab, (by intro s A ps ys r Q _ _ _ h; cases h), (by intro s A ps ys xs us n xs' Q h; cases h), fun h => by rcases h with ⟨ps, r, h⟩ | h <;> cases h⟩
theorem fn_of {rm : Nat} {f : Addr} {qual : Str} {params : Arguments} {body : List Stmt} {cs : Scope} {dV kV : Value} {W : SW} {op : List P → Option P} (pn : List Str)
   (B : FnRec f qual params body cs dV kV) (hS : SS rm cs body W) (T : TakesPos qual params body cs dV kV pn)
   (hW : ∀ xs r, op xs = some r → xs.length = pn.length ∧ W ⟨xs.map (fun x => some (.p x)) ++ List.replicate (cs.names.length - pn.length) none, [], Ky.no⟩ (Outs r))
   (hn : cs.names.take pn.length = pn.map (·, .local)) (hnd : (cs.names.map (·.1)).Nodup) (hcell : ∀ x ∈ cs.names, x.2 ≠ .cell ∧ x.2 ≠ .free)
   (hk : cs.kind = .function) (hco : cs.isCoroutine = false) (hgen : cs.isGenerator = false) (hmk : markOf cs = none) : Fn (rm + 1) f op := fun G s xs ys r A Q hG ok hm hv ho hQ => by
 obtain ⟨oc, od, osl, name, doc, pm, an, cdv, ct, hf, hcd⟩ := B.o G.w
 obtain ⟨hxl, hWx⟩ := hW xs r ho
 have hlen : ys.length = pn.length := hv.len.trans hxl
 have K : (KF G.w).In s.heap := fun p o e => ok.stay p o (hG.X p o e)
 have hlim : s.heap.NoLimit := let ⟨mc, n, q⟩ := hG.nolimit; ⟨mc, n.keeps ok.stay, q⟩
 have hmem : ∀ {i : Nat} {x : Str} {k : NameKind}, cs.names[i]? = some (x, k) → k ≠ .cell ∧ k ≠ .free := fun e => hcell _ (List.mem_of_getElem? e)
 have hlk : ∀ {x}, cs.names.lookup x ≠ some .cell := fun e => (hcell _ (PySem.mem_of_lookup e)).1 rfl
 refine wpAny_call (codeAny_call_def (fd := fnX name qual params body cs [] dV kV doc pm an cdv ct) (body := body) (binds := pn.zip ys) (by have := hm.dp; exact m4 ‹_›) (K _ _ hf) rfl hlim (codeRec_of K hcd) rfl (T name doc pm an cdv ct s ys hlen) (fun x hx => (hcell x hx).1) ?_ ?_ hco hgen hk)
 · intro y hy
   have h1 : y.1 ∈ pn := (List.of_mem_zip (a := y.1) (b := y.2) hy).1
   obtain ⟨i, hi, e⟩ := List.getElem_of_mem h1
   refine lookup_of_nth (i := i) hnd ?_
   have h2 : (cs.names.take pn.length)[i]? = some (y.1, .local) := by rw [hn]; simp [hi, e]
   rw [List.getElem?_take, if_pos (by
     have : i < pn.length := hi
     exact this)] at h2
   exact h2
 intro h₀ hns hst
 have hG' : G.off.Ok := hG.off
 let Γ : Fi := ⟨qual, cs, s.heap.objs.size, s.heap.objs.size, some f, cdv, []⟩
 have hΓ : Γ.Ok G.off [] s.heap := ⟨hk, hnd, Nat.le_refl _, fun x c e => absurd e hlk, fun x e => absurd e hlk, fun x y c e => by simp [Γ] at e, fun b o e => ⟨Heap.lt_size (ok.stay b o e), by simp⟩, fun a ha => by simp at ha, fun c q e => by rw [show markOf (Γ.cs) = none from hmk] at e; cases e⟩
 have ok₁ : G.off.at h₀ := ⟨fun b o e => hst b o (ok.stay b o e), fun q hq => let ⟨ps, e, t, c⟩ := ok.tabs q hq; ⟨ps, hst _ _ e, t, fun pos cv hc => (c pos cv hc).keeps hst⟩⟩
 have R : Rp G.off Γ [] s ⟨xs.map (fun x => some (.p x)) ++ List.replicate (cs.names.length - pn.length) none, [], Ky.no⟩ [] { s with heap := h₀, toks := s.toks + (pn.zip ys).length } := by
   refine ⟨⟨_, _, rfl⟩, ok₁, .of hst, ⟨_, hns, fun i x v e1 e2 => ?_⟩, fun i x k v e1 e2 => ?_, fun x c e => by simp [Γ] at e, fun i a zs e => by simp at e, rfl, List.nodup_nil, fun a ha => by simp at ha, rfl, fun h => by cases h⟩
   · have hi : i < xs.length := by
       by_cases hi : i < xs.length
       · exact hi
       · rw [List.getElem?_append_right (by simpa using hi)] at e2
         simp [List.getElem?_replicate] at e2
     rw [List.getElem?_append_left (by simpa using hi)] at e2
     simp only [List.getElem?_map, Option.map_eq_some_iff] at e2
     obtain ⟨p, hp, e2⟩ := e2
     obtain rfl := sij e2
     obtain ⟨y, hy, py⟩ := hv.get hp
     have hpi : pn[i]? = some x := by
       have h2 : (cs.names.take pn.length)[i]? = some (x, .local) := by
         rw [List.getElem?_take, if_pos (by exact m9 ‹_› ‹_›)]; exact e1
       rw [hn] at h2
       simp only [List.getElem?_map, Option.map_eq_some_iff, Prod.mk.injEq] at h2
       obtain ⟨z, h3, h4, _⟩ := h2
       rw [h3, h4]
     have hpn : pn.Nodup := by
       have h3 : pn = (cs.names.map (·.1)).take pn.length := by
         rw [← List.map_take, hn, List.map_map]; exact (List.map_id pn).symm
       rw [h3]
       exact hnd.sublist (List.take_sublist _ _)
     refine ⟨y, (zip_lookup hpn hpi hlen).trans hy, ?_⟩
     exact PV.mono (fun b o e zz zz => hst b o e) (fun b o e zz => by simp) py
   · rcases e2 with rfl | rfl
     · exact absurd rfl (hmem e1).1
     · exact absurd rfl (hmem e1).2
 have hm' : RmG rm Γ (A.deeper Γ.env) := .of ⟨hm.hd, by have := hm.dp; show A.depth + 1 + rm < _; exact m5 ‹_›, by have := hm.un; show A.units + 3 + 10 * rm < _; lia⟩ (by rw [show markOf (Γ.cs) = none from hmk]; nofun)
 refine wpAny_mono (hS G.off Γ [] s _ [] _ (A.deeper Γ.env) (Outs r) (fun fl s' => Q (match fl with | .ret v => v | _ => .none) s') hG' hΓ rfl hWx R hm' fun fl σ' ow' s' fw hPo R' g hf => ?_) (fun zz zz h => h) fun zz zz h => h.elim
 obtain ⟨h', tk, rfl⟩ := R'.sh
 have old : Old tb s.heap h' := R'.old
 cases fl with
 | next =>
   cases hf
   have : r = .none := hPo
   subst this
   exact hQ _ h' tk rfl old (R'.ok.off)
 | ret v =>
   obtain ⟨y, rfl, vy⟩ := hf
   have hr : outP σ' v = some r := hPo
   clear hPo
   refine hQ _ h' tk ?_ old (R'.ok.off)
   cases v with
   | p x =>
     simp only [outP, Option.ite_none_right_eq_some, Option.some.injEq] at hr
     obtain ⟨hx, rfl⟩ := hr
     exact PV.any hx vy
   | own i =>
     obtain ⟨zs, hz, hr⟩ := Option.bind_eq_some_iff.mp hr
     simp only [Option.ite_none_right_eq_some, Option.some.injEq] at hr
     obtain ⟨hx, rfl⟩ := hr
     obtain ⟨a, ha, rfl⟩ := vy
     obtain ⟨us, n, q, p⟩ := R'.own i a zs ha hz
     simp only [PV]
     refine ⟨a, us, rfl, ?_, ⟨_, q, rfl, n, rfl⟩, PVs.any hx p⟩
     rcases R'.owf a (List.mem_of_getElem? ha) with h | h
     · exact h
     · simp at h
 | brk => exact (hPo : False).elim
 | cont => exact (hPo : False).elim
noncomputable def bitsP : P → Option P
 | .int a => some (.int (Builtin.Int.intBits a))
 | _ => none
noncomputable def isP : P → P → Option P
 | .none, .none => some (.bool true)
 | .int _, .none => some (.bool false)
 | .raw (.ref _), .none => some (.bool false)
 | .bool a, .bool b => some (.bool (a == b))
 | _, _ => none
noncomputable def isNotP (a b : P) : Option P := match isP a b with
 | some (.bool c) => some (.bool (!c))
 | _ => none
section
variable {rm : Nat} {cs : Scope}
theorem ES_bits {x : Str} {p ap pos : Pos} {f : St → Option V} (ho : ES rm cs (.Name x p) f) (hM : MC (.Name x p) (Str.ofString "bit_length") ap [] pos) : ES rm cs (.Call (.Attribute (.Name x p) (Str.ofString "bit_length") ap) [] [] pos) (lift1 bitsP f) := fun G Γ mu s₀ σ ow s v A Q hG hΓ hc hf R hm hQ => by
 obtain ⟨a, r, ha, hr, rfl⟩ := lift1_some hf
 obtain ⟨pl, hpl⟩ := hM Γ.env
 refine MethodCall_ (pl := pl) ?_ hpl
 refine ho G Γ mu s₀ σ ow s _ A _ hG hΓ hc ha R hm fun ov s₁ vo R₁ o₁ => ?_
 cases a with
 | int a =>
   obtain rfl := sij hr
   obtain ⟨t, rfl⟩ := vo
   with_reducible refine getMethod_int_bit_length ?_
   with_reducible refine callWith_method0 ?_
   with_reducible refine call_int_bit_length ?_
   exact hQ _ _ ⟨_, rfl⟩ (R₁.tok _) o₁
 | _ => cases hr
theorem is_view {ok : Addr → Prop} {h : Heap} {a b r : P} {x y : Value} (ha : PV ok h a x) (hb : PV ok h b y) (e : isP a b = some r) : plainIs x y = true ∧ r = .bool (x == y) := by
 cases a with
 | none =>
   cases b with
   | none => cases e; cases ha; cases hb; exact ⟨rfl, rfl⟩
   | _ => exact nn e
 | int a =>
   cases b with
   | none => cases e; obtain ⟨t, rfl⟩ := ha; cases hb; exact ⟨rfl, rfl⟩
   | _ => exact nn e
 | bool a =>
   cases b with
   | bool b => cases e; cases ha; cases hb; exact ⟨rfl, by cases a <;> cases b <;> rfl⟩
   | _ => exact nn e
 | raw v =>
   cases v with
   | ref a =>
     cases b with
     | none => cases e; cases ha; cases hb; exact ⟨rfl, rfl⟩
     | _ => exact nn e
   | _ => exact nn e
 | _ => exact nn e
theorem ok_is : Op2 rm (compareOp .Is) isP := fun G ok s a b r x y A Q zz hk zz zz ha hb h hQ => by
 obtain ⟨h1, rfl⟩ := is_view ha hb h
 with_reducible refine wpAny_is_plain h1 ?_
 exact hQ _ s.heap s.toks rfl .refl hk
theorem ok_isNot : Op2 rm (compareOp .IsNot) isNotP := fun G ok s a b r x y A Q zz hk zz zz ha hb h hQ => by
 unfold isNotP at h
 split at h
 · rename_i c hc
   obtain rfl := sij h
   obtain ⟨h1, h2⟩ := is_view ha hb hc
   cases h2
   with_reducible refine wpAny_isNot_plain h1 ?_
   exact hQ _ s.heap s.toks rfl .refl hk
 · cases h
noncomputable def cIn (f g : St → Option V) : St → Option V := fun σ => match f σ, g σ with
 | some (.p (.int k)), some v => ((lstOf σ v).bind intsP).map fun ns => .p (.bool (ns.any (· == k)))
 | _, _ => none
theorem cIn_inv {f g : St → Option V} {σ : St} {v : V} (h : cIn f g σ = some v) : ∃ k u, f σ = some (.p (.int k)) ∧ g σ = some u ∧ (((lstOf σ u).bind intsP).map fun ns => V.p (.bool (ns.any (· == k)))) = some v :=
 eO (F := fun o => cIn (fun _ => o) (fun _ => g σ) σ) (o := f σ) h zr fun x1 e2 h => eV (F := fun o => cIn (fun _ => (some o)) (fun _ => g σ) σ) (o := x1) h zn fun x3 e4 h => eI (F := fun o => cIn (fun _ => (some (V.p o))) (fun _ => g σ) σ) (o := x3) h zr zn zn zn zn zn fun k e5 h => eO (F := fun o => cIn (fun _ => (some (V.p (P.int k)))) (fun _ => o) σ) (o := g σ) h zr fun u e6 h => ⟨k, u, e2.trans (congrArg some (e4.trans (congrArg V.p (e5)))), e6, h⟩
theorem in_parts {G : Gd} {Γ : Fi} {mu : List Addr} {s₀ s : Shared} {σ : St} {ow : List Addr} {A : Around} {v : V} {Q : Value → Shared → Prop} {l r : PySem.Expr} {f g : St → Option V}
   (hl : ES rm cs l f) (hr : ES rm cs r g) (hG : G.Ok) (hΓ : Γ.Ok G mu s₀.heap) (hc : Γ.cs = cs) (hf : cIn f g σ = some v) (R : Rp G Γ mu s₀ σ ow s) (hm : RmG rm Γ A)
   (hQ : ∀ x s', VR s'.heap ow v x → Rp G Γ mu s₀ σ ow s' → Old tb s.heap s'.heap → Q x s') :
   wpAny (model PG G.w) A (eval l Γ.env) (fun a s₁ => wpAny (model PG G.w) A (eval r Γ.env) (fun b s₂ => wpAny (model PG G.w) A (compareOp .In a b) Q NoE s₂) NoE s₁) NoE s := by
 obtain ⟨k, u, h1, h2, hf⟩ := cIn_inv hf
 ·
   obtain ⟨ns, hn, rfl⟩ := Option.map_eq_some_iff.mp hf
   obtain ⟨zs, hz, hi⟩ := Option.bind_eq_some_iff.mp hn
   refine hl G Γ mu s₀ σ ow s _ A _ hG hΓ hc h1 R hm fun x s₁ vx R₁ o₁ => ?_
   refine hr G Γ mu s₀ σ ow s₁ _ A _ hG hΓ hc h2 R₁ hm fun y s₂ vy R₂ o₂ => ?_
   obtain ⟨t, rfl⟩ := vx
   obtain ⟨a, ys, rfl, q, p⟩ := lst_view R₂ vy hz
   with_reducible refine in_list_ints (ns := ns) q ?_ ?_
   · exact p.ints hi
   · exact hQ _ s₂ rfl R₂ (o₁.trans o₂)
theorem ES_in {l r : PySem.Expr} {pos : Pos} {f g : St → Option V} (hl : ES rm cs l f) (hr : ES rm cs r g) (hb : behindInMarks .In r = false) : ES rm cs (.Compare l [.In] [r] pos) (cIn f g) :=
 fun zz zz zz zz zz zz zz zz zz zz hG hΓ hc hf R hm hQ => wpAny_Compare1 (in_parts hl hr hG hΓ hc hf R hm hQ) hb
theorem CT_in {l r : PySem.Expr} {pos : Pos} {f g : St → Option V} (hl : ES rm cs l f) (hr : ES rm cs r g) (hb : behindInMarks .In r = false) : CT rm cs (.Compare l [.In] [r] pos) (cB (cIn f g)) :=
 fun G Γ mu s₀ σ ow s b A Q hG hΓ hc hf R hm hQ => by
 have hf' : cIn f g σ = some (.p (.bool b)) := by
   unfold cB at hf
   split at hf
   · rename_i h; obtain rfl := sij hf; exact h
   · cases hf
 with_reducible refine wpAny_isTrue_Compare1 ?_ hb
 refine in_parts (Q := fun c s₃ => wpAny (model PG G.w) A (truthy c) Q NoE s₃) hl hr hG hΓ hc hf' R hm fun x s' vx R' o' => ?_
 cases vx
 with_reducible refine wpAny_truthy_bool ?_
 exact hQ _ R' o'
noncomputable def nRep (f : St → Option (List P)) (g : St → Option V) : St → Option (List P) := fun σ => match f σ, g σ with
 | some xs, some (.p (.int n)) => if 0 ≤ n ∧ n ≤ 1000 ∧ xs.length = 1 then some (List.replicate n.toNat xs).flatten else none
 | _, _ => none
theorem PVs.rep {ok : Addr → Prop} {h : Heap} {xs : List P} {ys : List Value} (q : PVs ok h xs ys) : ∀ n, PVs ok h (List.replicate n xs).flatten (List.replicate n ys).flatten
 | 0 => rfl
 | n + 1 => by
   simp only [List.replicate_succ, List.flatten_cons]
   exact q.append (PVs.rep q n)
theorem foldl_rep (ys : List Value) : ∀ (n : Nat) (acc : List Value), List.foldl (fun (x1 x2 : Array Value) => x1 ++ x2) (List.toArray acc) (List.replicate n (List.toArray ys)) = List.toArray (acc ++ (List.replicate n ys).flatten)
 | 0, acc => by simp
 | n + 1, acc => by
   simp only [List.replicate_succ, List.foldl_cons, List.flatten_cons]
   rw [show (List.toArray acc ++ List.toArray ys) = List.toArray (acc ++ ys) by simp, foldl_rep ys n, List.append_assoc]
theorem NS_rep {l r : PySem.Expr} {pos : Pos} {f : St → Option (List P)} {g : St → Option V} (hl : NS rm cs l f) (hr : ES rm cs r g) : NS rm cs (.BinOp l .Mult r pos) (nRep f g) := fun G Γ mu s₀ σ ow s xs A Q hG hΓ hc hf R hm hQ => by
 unfold nRep at hf
 split at hf
 · rename_i zs n h1 h2
   split at hf
   · rename_i hn
     obtain rfl := sij hf
     with_reducible refine wpAny_BinOp ?_
     refine hl G Γ mu s₀ σ ow s _ A _ hG hΓ hc h1 R hm fun a s₁ N R₁ o₁ => ?_
     obtain ⟨us, k, ea, pa⟩ := N.there
     have hx : ∃ as, R₁ = as := ⟨_, rfl⟩
     refine hr G Γ mu s₀ σ ow s₁ _ A _ hG hΓ hc h2 R₁ hm fun y s₂ vy R₂ o₂ => ?_
     obtain ⟨t, rfl⟩ := vy
     have ea₂ : s₂.heap.get? a = some { cls := .type "list", dict := none, data := .seq (List.toArray us) k, slots := #[] } := o₂.cls R₁.ok.tabs ea nofun
     have lu : us.length = 1 := pa.len.trans hn.2.2
     have pu : PVs (· ∉ ow) s₂.heap zs us := PVs.mono (fun b o e zz hc' => o₂.cls R₁.ok.tabs e (by rcases hc' with h | ⟨h, _⟩ <;> rw [h] <;> nofun)) (fun b o e k => k.1) pa
     refine wpAny_binaryOp_repeat_ref (T := "list") (U := "int") (by decide) ⟨_, ea₂, rfl⟩ (fun s' => typeIs_int s' n t) noFill_list_mul PySem.F.fills_int_mul PySem.F.slot_int_rmul repeat_list PySem.F.slot_int_index.lookup
       (call_meets PySem.F.slot_int_rmul (typeIs_int s₂ n t) PySem.F.entry_int_rmul (PySem.F.args_int_rmul_2 _ _) (int___rmul___int_list n t a (List.toArray us) k)
         ⟨ea₂, rfl, ⟨_, ea₂, rfl⟩, call_meets PySem.F.slot_list_mul ⟨_, ea₂, rfl⟩ PySem.F.entry_list_mul (PySem.F.args_list_mul_2 _ _)
           (AutoListH.list___mul___list_int_3 a (List.toArray us) k n t (by simp [Builtin.List.listFitsIndex]; lia) (by simp [lu]; lia) (by simp [Builtin.List.listTooLong, sizeLine, lu]; lia))
           ⟨ea₂, ?_⟩⟩)
     have he : List.foldl (fun (x1 x2 : Array Value) => x1 ++ x2) #[] (List.replicate (if (List.toArray us).isEmpty = true then 0 else n.toNat) (List.toArray us)) = List.toArray (List.replicate n.toNat us).flatten := by
       have hne : (List.toArray us).isEmpty = false := by cases us <;> simp_all
       rw [hne]
       simp only [Bool.false_eq_true, if_false]
       have := foldl_rep us n.toNat []
       simpa using this
     rw [he]
     exact hQ _ _ (New.at R₂ hΓ (o₁.trans o₂) (Heap.get?_push_size _ rfl) (fun b o e => Heap.get?_push_of_some _ e) (pu.rep _)) (R₂.step _ (.push _) (R₂.ok.push _)) ((o₁.trans o₂).trans (.push _))
   · cases hf
 · cases hf
noncomputable def nRng (f : St → Option V) : St → Option (List P) := fun σ => match f σ with
 | some (.p (.int n)) => if 0 ≤ n ∧ n ≤ 1000 then some (rangeP 0 n.toNat) else none
 | _ => none
theorem rangeP_view {ok : Addr → Prop} {h : Heap} : ∀ {n : Nat} {a : Int} {ys : List Value}, ys.length = n → (∀ (i : Nat) (y : Value), ys[i]? = some y → ∃ t, y = Value.int (a + i) t) → PVs ok h (rangeP a n) ys := by
 intro n
 induction n with
 | zero =>
   intro a ys hl _
   cases ys with
   | nil => rfl
   | cons _ _ => simp at hl
 | succ n ih =>
   intro a ys hl hy
   cases ys with
   | nil => simp at hl
   | cons y ys =>
     refine ⟨y, ys, rfl, ?_, ih (by simpa using hl) fun i z hz => ?_⟩
     · obtain ⟨t, e⟩ := hy 0 y rfl
       exact ⟨t, by simpa using e⟩
     · obtain ⟨t, e⟩ := hy (i + 1) z (by simpa using hz)
       refine ⟨t, e.trans ?_⟩
       have : a + ((i + 1 : Nat) : Int) = a + 1 + (i : Int) := by lia
       rw [this]
theorem NS_rng (i j : Nat) {e : PySem.Expr} {p p' rp pos : Pos} {f : St → Option V} (B : Bn (Str.ofString "list") (.type "list")) (B' : Bn (Str.ofString "range") (.type "range")) (hx : cs.names[i]? = some (Str.ofString "list", .globalImplicit)) (hx' : cs.names[j]? = some (Str.ofString "range", .globalImplicit)) (he : ES rm cs e f)
   (hn : ∀ env, starEach [e] env = [(false, eval e env)]) (hn' : ∀ env, starEach [.Call (.Name (Str.ofString "range") p') [e] [] rp] env = [(false, eval (.Call (.Name (Str.ofString "range") p') [e] [] rp) env)]) : NS rm cs (.Call (.Name (Str.ofString "list") p) [.Call (.Name (Str.ofString "range") p') [e] [] rp] [] pos) (nRng f) := fun G Γ mu s₀ σ ow s xs A Q hG hΓ hc hf R hm hQ => by
 unfold nRng at hf
 split at hf
 · rename_i n h1
   split at hf
   · rename_i hl
     obtain rfl := sij hf
     with_reducible refine wpAny_Call_NameR ?_
     refine name_B i B hG hΓ (hc ▸ hx) R.ok ?_
     with_reducible refine PyProof.Rows.callWith_type1 ?_ (hn' _) rfl
     with_reducible refine spliced_more ?_ (hn' _)
     with_reducible refine wpAny_Call_NameR ?_
     refine name_B j B' hG hΓ (hc ▸ hx') R.ok ?_
     with_reducible refine PyProof.Rows.callWith_type1 ?_ (hn _) rfl
     with_reducible refine spliced_more ?_ (hn _)
     refine he G Γ mu s₀ σ ow s _ A _ hG hΓ hc h1 R hm fun y s₁ vy R₁ o₁ => ?_
     obtain ⟨t', rfl⟩ := vy
     with_reducible refine spliced_none ?_
     with_reducible refine call_range_1 ?_
     with_reducible refine spliced_none ?_
     have R₂ := R₁.step (s₁.toks + 1 + 1) (Old.push { cls := .type "range", data := .fields #[.int 0 s₁.toks, .int n t', .int 1 (s₁.toks + 1)] }) (R₁.ok.push _)
     have hsz : Builtin.Range.rangeSize 0 n 1 = (n.toNat : Int) := by rw [rangeSize_one]; split <;> lia
     refine call_list_range hm.hd (IsRange.new _ _ _ _ _ _ _) (small_one (by exact r6) (by exact r6) (by lia) (by lia)) hsz (by lia) ?_
     intro h' tk acc c' hk hg hi
     obtain ⟨us, rfl⟩ : ∃ us : List Value, acc = List.toArray us := ⟨acc.toList, by rw [Array.toArray_toList]⟩
     have pu : PVs (· ∉ ow) (s₁.heap.push { cls := .type "range", data := .fields #[.int 0 s₁.toks, .int n t', .int 1 (s₁.toks + 1)] }) (rangeP 0 n.toNat) us := by
       refine rangeP_view (by have := hi.1; simpa using this) fun i y hy => ?_
       obtain ⟨t, e⟩ := hi.2 i y (by simpa using hy)
       exact ⟨t, by rw [e]; simp⟩
     have ok' : G.at h' := ⟨fun b o e => hk b o (R₂.ok.stay b o e), fun q hq => let ⟨ps, e, t, c⟩ := R₂.ok.tabs q hq; ⟨ps, hk _ _ e, t, fun pos cv hc => (c pos cv hc).keeps hk⟩⟩
     exact hQ _ _ (New.at R₂ hΓ (o₁.trans (.push _)) hg hk pu) (R₂.step tk (.of hk) ok') ((o₁.trans (.push _)).trans (.of hk))
   · cases hf
 · cases hf
end
mutual
noncomputable def dP : P → Option PyData
 | .none => some .none
 | .bool b => some (.bool b)
 | .int i => some (.int i)
 | .str s => some (.str s)
 | .tup xs => (dPs xs).map .tuple
 | .lst xs => (dPs xs).map .list
 | .raw _ => none
noncomputable def dPs : List P → Option (List PyData)
 | [] => some []
 | x :: xs => match dP x, dPs xs with
   | some d, some ds => some (d :: ds)
   | _, _ => none
end
mutual
theorem PV.reads {ok : Addr → Prop} {h : Heap} : ∀ {p : P} {v : Value} {d : PyData}, dP p = some d → PV ok h p v → ∃ as, Reads h v d as
 | .none, _, _, e, q => by cases e; cases q; exact ⟨_, .none⟩
 | .bool _, _, _, e, q => by cases e; cases q; exact ⟨_, .bool _⟩
 | .int _, _, _, e, q => by obtain rfl := sij e; obtain ⟨t, rfl⟩ := q; exact ⟨_, .int _ _⟩
 | .str _, _, _, e, q => by obtain rfl := sij e; obtain ⟨t, rfl⟩ := q; exact ⟨_, .str _ _⟩
 | .tup xs, _, _, e, q => by
   simp only [PV] at q
   obtain ⟨a, ys, rfl, ⟨o, ho, hc, n, hd⟩, r⟩ := q
   simp only [dP] at e
   obtain ⟨ds, hds, rfl⟩ := Option.map_eq_some_iff.mp e
   obtain ⟨as, ra⟩ := PVs.reads hds r
   exact ⟨_, .tuple ho hc hd ra⟩
 | .lst xs, _, _, e, q => by
   simp only [PV] at q
   obtain ⟨a, ys, rfl, _, ⟨o, ho, hc, n, hd⟩, r⟩ := q
   simp only [dP] at e
   obtain ⟨ds, hds, rfl⟩ := Option.map_eq_some_iff.mp e
   obtain ⟨as, ra⟩ := PVs.reads hds r
   exact ⟨_, .list ho hc hd ra⟩
 | .raw _, _, _, e, _ => by simp [dP] at e
theorem PVs.reads {ok : Addr → Prop} {h : Heap} : ∀ {p : List P} {v : List Value} {d : List PyData}, dPs p = some d → PVs ok h p v → ∃ as, ReadsAll h v d as
 | [], _, _, e, q => by
   simp only [dPs, Option.some.injEq] at e
   subst e
   simp only [PVs] at q
   subst q
   exact ⟨_, .nil⟩
 | x :: xs, _, _, e, q => by
   simp only [PVs] at q
   obtain ⟨y, r, rfl, q1, q2⟩ := q
   simp only [dPs] at e
   split at e
   · rename_i d ds h1 h2
     obtain rfl := sij e
     obtain ⟨as, ra⟩ := PV.reads h1 q1
     obtain ⟨bs, rb⟩ := PVs.reads h2 q2
     exact ⟨_, .cons ra rb⟩
   · cases e
end
noncomputable def dV (σ : St) (v : V) : Option PyData := (toP σ v).bind dP
noncomputable def Op2V (rm : Nat) (t : Value → Value → Sem Value) (op : St → V → V → Option P) : Prop :=
 ∀ (G : Gd) (Γ : Fi) (mu : List Addr) (s₀ : Shared) (σ : St) (ow : List Addr) (s : Shared) (u v : V) (r : P) (x y : Value) (A : Around) (Q : Value → Shared → Prop), G.Ok → Γ.Ok G mu s₀.heap → Rp G Γ mu s₀ σ ow s → RmG rm Γ A → VR s.heap ow u x → VR s.heap ow v y → op σ u v = some r →
   (∀ z h' tk, PV (· ∉ ow) h' r z → Old tb s.heap h' → G.at h' → Q z { s with heap := h', toks := tk }) → wpAny (model PG G.w) A (t x y) Q NoE s
noncomputable def lift2V (op : St → V → V → Option P) (f g : St → Option V) : St → Option V := fun σ => match f σ, g σ with
 | some a, some b => (op σ a b).map .p
 | _, _ => none
section
variable {rm : Nat} {cs : Scope}
theorem two_partsV {G : Gd} {Γ : Fi} {mu : List Addr} {s₀ s : Shared} {σ : St} {ow : List Addr} {A : Around} {v : V} {Q : Value → Shared → Prop} {l r : PySem.Expr} {f g : St → Option V} {op : St → V → V → Option P} {t : Value → Value → Sem Value}
   (hl : ES rm cs l f) (hr : ES rm cs r g) (ho : Op2V rm t op) (hG : G.Ok) (hΓ : Γ.Ok G mu s₀.heap) (hc : Γ.cs = cs) (hf : lift2V op f g σ = some v) (R : Rp G Γ mu s₀ σ ow s) (hm : RmG rm Γ A)
   (hQ : ∀ x s', VR s'.heap ow v x → Rp G Γ mu s₀ σ ow s' → Old tb s.heap s'.heap → Q x s') :
   wpAny (model PG G.w) A (eval l Γ.env) (fun a s₁ => wpAny (model PG G.w) A (eval r Γ.env) (fun b s₂ => wpAny (model PG G.w) A (t a b) Q NoE s₂) NoE s₁) NoE s := by
 unfold lift2V at hf
 split at hf
 · rename_i a b ha hb
   obtain ⟨z, hz, rfl⟩ := Option.map_eq_some_iff.mp hf
   refine hl G Γ mu s₀ σ ow s _ A _ hG hΓ hc ha R hm fun x s₁ vx R₁ o₁ => ?_
   refine hr G Γ mu s₀ σ ow s₁ _ A _ hG hΓ hc hb R₁ hm fun y s₂ vy R₂ o₂ => ?_
   refine ho G Γ mu s₀ σ ow s₂ a b z x y A Q hG hΓ R₂ hm (vx.old o₂ R₁.ok.tabs) vy hz fun w h' tk vw o₃ ok₃ => ?_
   exact hQ w _ vw (R₂.step tk o₃ ok₃) ((o₁.trans o₂).trans o₃)
 · cases hf
theorem CT_cmpV {l r : PySem.Expr} {pos : Pos} {o : CmpOp} {f g : St → Option V} {op : St → V → V → Option P} (hl : ES rm cs l f) (hr : ES rm cs r g) (ho : Op2V rm (compareOp o) op) (hb : behindInMarks o r = false) : CT rm cs (.Compare l [o] [r] pos) (cB (lift2V op f g)) :=
 fun G Γ mu s₀ σ ow s b A Q hG hΓ hc hf R hm hQ => by
 have hf' : lift2V op f g σ = some (.p (.bool b)) := by
   unfold cB at hf
   split at hf
   · rename_i h; obtain rfl := sij hf; exact h
   · cases hf
 with_reducible refine wpAny_isTrue_Compare1 ?_ hb
 refine two_partsV (Q := fun c s₃ => wpAny (model PG G.w) A (truthy c) Q NoE s₃) hl hr ho hG hΓ hc hf' R hm fun x s' vx R' o' => ?_
 cases vx
 with_reducible refine wpAny_truthy_bool ?_
 exact hQ _ R' o'
noncomputable def neD (σ : St) (u v : V) : Option P := match dV σ u, dV σ v with
 | some a, some b => if PySem.SeqAt.shaped a = true ∧ PySem.SeqAt.shaped b = true then some (.bool (!PyData.eqv a b)) else none
 | _, _ => none
theorem dV_view {G : Gd} {Γ : Fi} {mu : List Addr} {s₀ s : Shared} {σ : St} {ow : List Addr} (R : Rp G Γ mu s₀ σ ow s) {v : V} {d : PyData} {y : Value} (h : VR s.heap ow v y) (e : dV σ v = some d) : ∃ as, Reads s.heap y d as := by
 obtain ⟨p, hp, hd⟩ := Option.bind_eq_some_iff.mp e
 exact PV.reads hd (toP_view R h hp)
theorem ok_neD (h7 : 7 ≤ rm) : Op2V rm (compareOp .NotEq) neD := fun G Γ mu s₀ σ ow s u v r x y A Q hG hΓ R hm hu hv h hQ => by
 unfold neD at h
 split at h
 · rename_i a b ha hb
   split at h
   · rename_i hs
     obtain rfl := sij h
     obtain ⟨as, ra⟩ := dV_view R hu ha
     obtain ⟨bs, rb⟩ := dV_view R hv hb
     with_reducible refine ne_dataH ra rb hs.1 hs.2 ?_ ?_
     · have := hm.un; lia
     · exact hQ _ s.heap s.toks rfl .refl R.ok
   · cases h
 · cases h
noncomputable def nCp (f : St → Option V) : St → Option (List P) := fun σ => match (f σ).bind (lstOf σ) with
 | some xs => if xs.length ≤ 1000 then some xs else none
 | none => none
theorem NS_cp (i : Nat) {e : PySem.Expr} {p pos : Pos} {f : St → Option V} (B : Bn (Str.ofString "list") (.type "list")) (hx : cs.names[i]? = some (Str.ofString "list", .globalImplicit)) (he : ES rm cs e f)
   (hn : ∀ env, starEach [e] env = [(false, eval e env)]) : NS rm cs (.Call (.Name (Str.ofString "list") p) [e] [] pos) (nCp f) := fun G Γ mu s₀ σ ow s xs A Q hG hΓ hc hf R hm hQ => by
 unfold nCp at hf
 split at hf
 · rename_i zs hz
   split at hf
   · rename_i hl
     obtain rfl := sij hf
     refine wg fun P' bk => ?_
     obtain ⟨v, h1, h2⟩ := Option.bind_eq_some_iff.mp hz
     refine bk ?_
     with_reducible refine wpAny_Call_NameR ?_
     refine name_B i B hG hΓ (hc ▸ hx) R.ok ?_
     with_reducible refine PyProof.Rows.callWith_type1 ?_ (hn _) rfl
     with_reducible refine spliced_more ?_ (hn _)
     refine he G Γ mu s₀ σ ow s _ A _ hG hΓ hc h1 R hm fun y s₁ vy R₁ o₁ => ?_
     with_reducible refine spliced_none ?_
     refine wg fun P' bk => ?_
     obtain ⟨a, ys, rfl, ⟨o, ho, hcl, n, hd⟩, pv⟩ := lst_view R₁ vy h2
     refine bk ?_
     refine call_list_seq a (T := "list") (.inl rfl) ho hcl hd ?_ (by rw [sizeLine_eq]; have := pv.len; simp; lia)
     intro h' c' hk hg
     have ok' : G.at h' := ⟨fun b o e => hk b o (R₁.ok.stay b o e), fun q hq => let ⟨ps, e, t, c⟩ := R₁.ok.tabs q hq; ⟨ps, hk _ _ e, t, fun pos cv hc => (c pos cv hc).keeps hk⟩⟩
     exact hQ _ _ (New.at R₁ hΓ o₁ hg hk pv) (R₁.step s₁.toks (.of hk) ok') (o₁.trans (.of hk))
   · cases hf
 · cases hf
noncomputable def pickP (xs : List P) (lo hi st : Option Int) : List P := (sliceRange (sliceBounds lo hi st xs.length).1 (sliceBounds lo hi st xs.length).2.1 (sliceBounds lo hi st xs.length).2.2).filterMap (xs[·]?)
noncomputable def EP (rm : Nat) (cs : Scope) (x : Option PySem.Expr) (f : St → Option (Option Int)) : Prop :=
 ∀ (G : Gd) (Γ : Fi) (mu : List Addr) (s₀ : Shared) (σ : St) (ow : List Addr) (s : Shared) (k : Option Int) (A : Around) (Q : Value → Shared → Prop),
   G.Ok → Γ.Ok G mu s₀.heap → Γ.cs = cs → f σ = some k → Rp G Γ mu s₀ σ ow s → RmG rm Γ A →
   (∀ y s', IsPart y k → Rp G Γ mu s₀ σ ow s' → Old tb s.heap s'.heap → Q y s') → wpAny (model PG G.w) A (evalPart x Γ.env) Q NoE s
noncomputable def kNo : St → Option (Option Int) := fun zz => some none
noncomputable def kInt (f : St → Option V) : St → Option (Option Int) := fun σ => match f σ with
 | some (.p (.int k)) => some (some k)
 | _ => none
theorem EP_none : EP rm cs none kNo := fun G Γ mu s₀ σ ow s k A Q hG hΓ hc hf R hm hQ => by
 obtain rfl := sij hf
 with_reducible refine wpAny_evalPart_none ?_
 exact hQ _ _ .none R .refl
theorem EP_some {e : PySem.Expr} {f : St → Option V} (he : ES rm cs e f) : EP rm cs (some e) (kInt f) := fun G Γ mu s₀ σ ow s k A Q hG hΓ hc hf R hm hQ => by
 unfold kInt at hf
 split at hf
 · rename_i n h1
   obtain rfl := sij hf
   with_reducible refine wpAny_evalPart_some ?_
   refine he G Γ mu s₀ σ ow s _ A _ hG hΓ hc h1 R hm fun y s' vy R' o' => ?_
   obtain ⟨t, rfl⟩ := vy
   exact hQ _ _ (.int _ _) R' o'
 · cases hf
noncomputable def nSl (f : St → Option V) (lo hi st : St → Option (Option Int)) : St → Option (List P) := fun σ => match (f σ).bind (lstOf σ), lo σ, hi σ, st σ with
 | some xs, some a, some b, some c => if xs.length ≤ 1000 ∧ c ≠ some 0 then some (pickP xs a b c) else none
 | _, _, _, _ => none
noncomputable def nSlD (o : Option (List P)) (a b c : Option (Option Int)) : Option (List P) := match o, a, b, c with
 | some xs, some a, some b, some c => if xs.length ≤ 1000 ∧ c ≠ some 0 then some (pickP xs a b c) else none
 | _, _, _, _ => none
theorem nSl_inv {f : St → Option V} {lo hi st : St → Option (Option Int)} {σ : St} {r : List P} (h : nSl f lo hi st σ = some r) : ∃ zs a b d, (f σ).bind (lstOf σ) = some zs ∧ lo σ = some a ∧ hi σ = some b ∧ st σ = some d ∧ (if zs.length ≤ 1000 ∧ d ≠ some 0 then some (pickP zs a b d) else none) = some r :=
 eO (F := fun o => nSlD (o) (lo σ) (hi σ) (st σ)) (o := (f σ).bind (lstOf σ)) h zr fun zs e1 h => eO (F := fun o => nSlD ((some zs)) (o) (hi σ) (st σ)) (o := lo σ) h zr fun a e2 h => eO (F := fun o => nSlD ((some zs)) ((some a)) (o) (st σ)) (o := hi σ) h zr fun b e3 h => eO (F := fun o => nSlD ((some zs)) ((some a)) ((some b)) (o)) (o := st σ) h zr fun d e4 h => ⟨zs, a, b, d, e1, e2, e3, e4, h⟩
theorem NS_slice {value : PySem.Expr} {l u st : Option PySem.Expr} {p pos : Pos} {f : St → Option V} {lo hi c : St → Option (Option Int)} (hv : ES rm cs value f) (h1 : EP rm cs l lo) (h2 : EP rm cs u hi) (h3 : EP rm cs st c)
   (hsub : ∀ o i, ∃ ops, subscripted (.Slice l u st p) false o i = operate ops (getItem o i)) : NS rm cs (.Subscript value (.Slice l u st p) pos) (nSl f lo hi c) := fun G Γ mu s₀ σ ow s xs A Q hG hΓ hc hf R hm hQ => by
 obtain ⟨zs, a, b, d, hz, q1, q2, q3, hf⟩ := nSl_inv hf
 obtain ⟨hl, hf⟩ := ifS hf
 ·
   ·
     obtain rfl := sij hf
     obtain ⟨v, e1, e2⟩ := Option.bind_eq_some_iff.mp hz
     with_reducible refine Subscript_ ?_
     refine hv G Γ mu s₀ σ ow s _ A _ hG hΓ hc e1 R hm fun x s₁ vx R₁ o₁ => ?_
     with_reducible refine wpAny_Slice ?_
     refine h1 G Γ mu s₀ σ ow s₁ _ A _ hG hΓ hc q1 R₁ hm fun y1 s₂ i1 R₂ o₂ => ?_
     refine h2 G Γ mu s₀ σ ow s₂ _ A _ hG hΓ hc q2 R₂ hm fun y2 s₃ i2 R₃ o₃ => ?_
     refine h3 G Γ mu s₀ σ ow s₃ _ A _ hG hΓ hc q3 R₃ hm fun y3 s₄ i3 R₄ o₄ => ?_
     have R₅ := R₄.step s₄.toks (Old.push { cls := .type "slice", data := .fields #[y1, y2, y3] }) (R₄.ok.push _)
     have vx' := (((vx.old o₂ R₁.ok.tabs).old o₃ R₂.ok.tabs).old o₄ R₃.ok.tabs).old (Old.push { cls := .type "slice", data := .fields #[y1, y2, y3] }) R₄.ok.tabs
     obtain ⟨la, ys, rfl, hq, pv⟩ := lst_view R₅ vx' e2
     obtain ⟨ops, hops⟩ := hsub (.ref la) (.ref s₄.heap.objs.size)
     have hlen := pv.len
     refine tail_any hq.typeIs slot_list_getitem.lookup ?_ hops
     refine wpAny_getItem_list_slice hq (Heap.IsSliceOf.new _ _ _ _) i1 i2 i3 hl.2 ?_ (by rw [sizeLine_eq]; simp; lia)
     have he : slicePick (List.toArray ys) a b d = List.toArray ((sliceRange (sliceBounds a b d zs.length).1 (sliceBounds a b d zs.length).2.1 (sliceBounds a b d zs.length).2.2).filterMap (ys[·]?)) := by
       unfold slicePick
       simp [hlen]
     rw [he]
     have o₅ := ((((o₁.trans o₂).trans o₃).trans o₄).trans (Old.push { cls := .type "slice", data := .fields #[y1, y2, y3] }))
     exact hQ _ _ (New.at R₅ hΓ o₅ (Heap.get?_push_size _ rfl) (fun b o e => Heap.get?_push_of_some _ e) (pv.pick _)) (R₅.step _ (.push _) (R₅.ok.push _)) (o₅.trans (.push _))
noncomputable def wRetN (f : St → Option (List P)) : SW := fun σ Po => ∃ xs, f σ = some xs ∧ Po (.ret (.own σ.own.length)) (σ.add xs)
theorem S_retNew {e : PySem.Expr} {pos : Pos} {f : St → Option (List P)} (he : NS rm cs e f) : S1 rm cs (.Return (some e) pos) (wRetN f) := fun G Γ mu s₀ σ ow s A Po Q hG hΓ hc hW R hm hQ => by
 obtain ⟨xs, hv, hPo⟩ := hW
 with_reducible refine wpAny_Return_some ?_
 refine he G Γ mu s₀ σ ow s xs A _ hG hΓ hc hv R hm fun a s' N R' o => ?_
 obtain ⟨R₁, g₁⟩ := R.add R' N o
 exact hQ (.ret (.own σ.own.length)) _ _ s' _ hPo R₁ g₁ ⟨_, rfl, a, by rw [← R.len]; simp, rfl⟩
end
noncomputable def wAny : SW := fun zz zz => False
theorem SS_any {rm : Nat} {cs : Scope} {ss : List Stmt} : SS rm cs ss wAny := fun zz zz zz zz zz zz zz zz zz zz zz zz zz hW => hW.elim
theorem Bn.of {x : Str} {v : Value} (k : ∀ w, nsIn (KF w) mainGlobals x = some none) (b : bootBuiltins x = some v) (n : (x == ("__name__" : Str)) = false) (d : (x == ("__debug__" : Str)) = false) : Bn x v := ⟨k, b, beq_eq_false_iff_ne.mp n, d⟩
theorem bn_len : Bn (Str.ofString "len") (.builtin "len") := .of (fun w => by kernel_rfl) (by kernel_rfl) (by kernel_rfl) (by kernel_rfl)
theorem bn_abs : Bn (Str.ofString "abs") (.builtin "abs") := .of (fun w => by kernel_rfl) (by kernel_rfl) (by kernel_rfl) (by kernel_rfl)
theorem bn_str : Bn (Str.ofString "str") (.type "str") := .of (fun w => by kernel_rfl) (by kernel_rfl) (by kernel_rfl) (by kernel_rfl)
theorem bn_int : Bn (Str.ofString "int") (.type "int") := .of (fun w => by kernel_rfl) (by kernel_rfl) (by kernel_rfl) (by kernel_rfl)
theorem bn_isinstance : Bn (Str.ofString "isinstance") (.builtin "isinstance") := .of (fun w => by kernel_rfl) (by kernel_rfl) (by kernel_rfl) (by kernel_rfl)
theorem bn_divmod : Bn (Str.ofString "divmod") (.builtin "divmod") := .of (fun w => by kernel_rfl) (by kernel_rfl) (by kernel_rfl) (by kernel_rfl)
theorem bn_sum : Bn (Str.ofString "sum") (.builtin "sum") := .of (fun w => by kernel_rfl) (by kernel_rfl) (by kernel_rfl) (by kernel_rfl)
theorem bn_sorted : Bn (Str.ofString "sorted") (.builtin "sorted") := .of (fun w => by kernel_rfl) (by kernel_rfl) (by kernel_rfl) (by kernel_rfl)
theorem bn_list : Bn (Str.ofString "list") (.type "list") := .of (fun w => by kernel_rfl) (by kernel_rfl) (by kernel_rfl) (by kernel_rfl)
theorem bn_range : Bn (Str.ofString "range") (.type "range") := .of (fun w => by kernel_rfl) (by kernel_rfl) (by kernel_rfl) (by kernel_rfl)
theorem bn_reversed : Bn (Str.ofString "reversed") (.type "reversed") := .of (fun w => by kernel_rfl) (by kernel_rfl) (by kernel_rfl) (by kernel_rfl)
theorem gn_DIV : ∃ t, Gn (Str.ofString "_DIV_LIMIT") (.int 4000 t) := ⟨_, ⟨fun w => by rfl, by kernel_rfl⟩⟩
theorem ES_gintE {rm : Nat} {cs : Scope} (i : Nat) {x : Str} {n : Int} {pos : Pos} (B : ∃ t, Gn x (.int n t)) (hx : cs.names[i]? = some (x, .globalImplicit)) : ES rm cs (.Name x pos) (cK (.int n)) := let ⟨t, b⟩ := B; ES_gint i b hx
theorem fk_div2n1n : FnK (Str.ofString "_div2n1n") 21 := ⟨⟨fun w => by kernel_rfl, by kernel_rfl⟩, fun w => ⟨_, _, by rfl, rfl⟩⟩
theorem fk_int2digits : FnK (Str.ofString "_int2digits") 35 := ⟨⟨fun w => by kernel_rfl, by kernel_rfl⟩, fun w => ⟨_, _, by rfl, rfl⟩⟩
theorem fk_digits2int : FnK (Str.ofString "_digits2int") 42 := ⟨⟨fun w => by kernel_rfl, by kernel_rfl⟩, fun w => ⟨_, _, by rfl, rfl⟩⟩
theorem fk_divmod_pos : FnK (Str.ofString "_divmod_pos") 49 := ⟨⟨fun w => by kernel_rfl, by kernel_rfl⟩, fun w => ⟨_, _, by rfl, rfl⟩⟩
theorem fk_int_divmod : FnK (Str.ofString "int_divmod") 56 := ⟨⟨fun w => by kernel_rfl, by kernel_rfl⟩, fun w => ⟨_, _, by rfl, rfl⟩⟩
theorem fk_insort_right : FnK (Str.ofString "insort_right") 65 := ⟨⟨fun w => by kernel_rfl, by kernel_rfl⟩, fun w => ⟨_, _, by rfl, rfl⟩⟩
theorem fk_bisect_right : FnK (Str.ofString "bisect_right") 74 := ⟨⟨fun w => by kernel_rfl, by kernel_rfl⟩, fun w => ⟨_, _, by rfl, rfl⟩⟩
theorem fk_parse229 : FnK (Str.ofString "parse229") 118 := ⟨⟨fun w => by kernel_rfl, by kernel_rfl⟩, fun w => ⟨_, _, by rfl, rfl⟩⟩
theorem fk_law_port : FnK (Str.ofString "_law_port") 125 := ⟨⟨fun w => by kernel_rfl, by kernel_rfl⟩, fun w => ⟨_, _, by rfl, rfl⟩⟩
theorem fk_law_nought : FnK (Str.ofString "_law_nought") 132 := ⟨⟨fun w => by kernel_rfl, by kernel_rfl⟩, fun w => ⟨_, _, by rfl, rfl⟩⟩
theorem fk_law_run : FnK (Str.ofString "_law_run") 139 := ⟨⟨fun w => by kernel_rfl, by kernel_rfl⟩, fun w => ⟨_, _, by rfl, rfl⟩⟩
theorem fk_law_found : FnK (Str.ofString "_law_found") 144 := ⟨⟨fun w => by kernel_rfl, by kernel_rfl⟩, fun w => ⟨_, _, by rfl, rfl⟩⟩
structure Plain (cs : Scope) (pn : List Str) (m : Nat) : Prop where
 n : cs.names.take pn.length = pn.map (·, .local)
 nd : (cs.names.map (·.1)).Nodup
 cell : ∀ x ∈ cs.names, x.2 ≠ .cell ∧ x.2 ≠ .free
 k : cs.kind = .function
 co : cs.isCoroutine = false
 gen : cs.isGenerator = false
 len : cs.names.length = pn.length + m
 mark : markOf cs = none
noncomputable def St.of (xs : List P) (m : Nat) : St := ⟨xs.map (fun x => some (.p x)) ++ List.replicate m none, [], Ky.no⟩
theorem fn_of_d {rm : Nat} {f : Addr} {W : SW} {op : List P → Option P} {pn : List Str} {m : Nat} (d : ∃ qual params body cs dV kV, FnRec f qual params body cs dV kV ∧ SS rm cs body W ∧ TakesPos qual params body cs dV kV pn ∧ Plain cs pn m)
   (hW : ∀ xs r, op xs = some r → xs.length = pn.length ∧ W (St.of xs m) (Outs r)) : Fn (rm + 1) f op := by
 refine wg fun P' bk => ?_
 obtain ⟨qual, params, body, cs, dV, kV, B, S, T, C⟩ := d
 refine bk ?_
 refine fn_of pn B S T (fun xs r h => ?_) C.n C.nd C.cell C.k C.co C.gen C.mark
 rw [C.len, Nat.add_sub_cancel_left]
 exact hW xs r h
theorem Rm.mono {n n' : Nat} {A : Around} (h : n' ≤ n) (x : Rm n A) : Rm n' A := ⟨x.hd, by have := x.dp; lia, by have := x.un; lia⟩
theorem RmG.mono {n n' : Nat} {Γ : Fi} {A : Around} (h : n' ≤ n) (x : RmG n Γ A) : RmG n' Γ A := ⟨x.toRm.mono h, x.fr⟩
theorem Fn.mono {rm rm' : Nat} {f : Addr} {op : List P → Option P} (h : rm ≤ rm') (x : Fn rm f op) : Fn rm' f op := fun G s xs ys r A Q hG ok hm => x G s xs ys r A Q hG ok (hm.mono h)
noncomputable def W_div2n1n  : SW := (wSeq (wIf (cB (lift2 leP (lift2 subP (lift1 bitsP (cV 0)) (cV 2)) (cK (.int 4000)))) (wSeq (wRet (cApp divmodA (cCons (cV 0) (cCons (cV 1) cNil)))) wNil) wNil) wAny)
theorem d_div2n1n {rm : Nat}  : ∃ qual params body cs dV kV, FnRec 21 qual params body cs dV kV ∧ SS rm cs body (W_div2n1n ) ∧ TakesPos qual params body cs dV kV [Str.ofString "a", Str.ofString "b", Str.ofString "n"] ∧ Plain cs [Str.ofString "a", Str.ofString "b", Str.ofString "n"] 11 :=
 ⟨_, _, _, _, _, _, ⟨fun w => ⟨_, _, _, _, _, _, _, _, _, by rfl, by kernel_rfl⟩⟩, (SS_cons (S_if (CT_cmp (ES_bin (ES_bits (ES_var 0 rfl (.inl rfl) rfl) (MC_of rfl fun zz => rfl)) (ES_var 2 rfl (.inl rfl) rfl) ok_sub) (ES_gintE 11 gn_DIV rfl) ok_le rfl) (SS_cons (S_ret (ES_callB 12 bn_divmod rfl (ESs_cons (ES_var 0 rfl (.inl rfl) rfl) (ESs_cons (ES_var 1 rfl (.inl rfl) rfl) ESs_nil (fun zz => rfl)) (fun zz => rfl)) ok_divmod (fun zz => rfl) (fun zz zz => rfl))) SS_nil) SS_nil) SS_any), (by exact takesK3 fun zz zz zz zz zz zz zz zz zz zz => BindsTo.of_eq rfl), ⟨rfl, by decide, by decide, rfl, rfl, rfl, rfl, by kernel_rfl⟩⟩
noncomputable def W_law_run (opD : List P → Option P) : SW := (wSeq (wNew 2 (nLst (cCons (cTup (cCons (cV 0) (cCons (cK (.int 0)) cNil))) (cCons (cTup (cCons (cV 1) (cCons (cK (.int 1)) cNil))) cNil)))) (wSeq (wForR (fun σ v => some (σ.put 3 v)) (cK (.int 99)) (wSeq (wIf (cB (lift2 eqP (cSub (cSub (cV 2) (lift1 negP (cK (.int 1)))) (cK (.int 0))) (cK (.int 0)))) (wSeq wBrk wNil) wNil) (wSeq (wUnp [4, 5] (cApp (opF opD) (cCons (cSub (cSub (cV 2) (lift1 negP (cK (.int 2)))) (cK (.int 0))) (cCons (cSub (cSub (cV 2) (lift1 negP (cK (.int 1)))) (cK (.int 0))) cNil)))) (wSeq (wApp (cV 2) (xOf (cTup (cCons (cV 5) (cCons (lift2 subP (cSub (cSub (cV 2) (lift1 negP (cK (.int 2)))) (cK (.int 1))) (lift2 mulP (cV 4) (cSub (cSub (cV 2) (lift1 negP (cK (.int 1)))) (cK (.int 1))))) cNil))))) wNil)))) (wSeq (wRet (cV 2)) wNil)))
theorem d_law_run {rm : Nat} {opD : List P → Option P} (hd : Fn rm 56 opD) : ∃ qual params body cs dV kV, FnRec 139 qual params body cs dV kV ∧ SS rm cs body (W_law_run opD) ∧ TakesPos qual params body cs dV kV [Str.ofString "great", Str.ofString "less"] ∧ Plain cs [Str.ofString "great", Str.ofString "less"] 6 :=
 ⟨_, _, _, _, _, _, ⟨fun w => ⟨_, _, _, _, _, _, _, _, _, by rfl, by kernel_rfl⟩⟩, (SS_cons (S_new 2 rfl (.inl rfl) (NS_lst (ESs_cons (ES_tup (ESs_cons (ES_var 0 rfl (.inl rfl) rfl) (ESs_cons ES_int ESs_nil (fun zz => rfl)) (fun zz => rfl))) (ESs_cons (ES_tup (ESs_cons (ES_var 1 rfl (.inl rfl) rfl) (ESs_cons ES_int ESs_nil (fun zz => rfl)) (fun zz => rfl))) ESs_nil (fun zz => rfl)) (fun zz => rfl))) (fun zz zz => rfl)) (SS_cons (S_forR 6 bn_range rfl (AT_name 3 rfl (.inl rfl)) ES_int (SS_cons (S_if (CT_cmp (ES_sub (ES_sub (ES_var 2 rfl (.inl rfl) rfl) (ES_un ES_int ok_neg) (fun zz zz => rfl)) ES_int (fun zz zz => rfl)) ES_int ok_eq rfl) (SS_cons S_brk SS_nil) SS_nil) (SS_cons (S_unp (Tgts.cons (i := 4) rfl (.inl rfl) (Tgts.cons (i := 5) rfl (.inl rfl) Tgts.nil)) (ES_callF 7 fk_int_divmod rfl (ESs_cons (ES_sub (ES_sub (ES_var 2 rfl (.inl rfl) rfl) (ES_un ES_int ok_neg) (fun zz zz => rfl)) ES_int (fun zz zz => rfl)) (ESs_cons (ES_sub (ES_sub (ES_var 2 rfl (.inl rfl) rfl) (ES_un ES_int ok_neg) (fun zz zz => rfl)) ES_int (fun zz zz => rfl)) ESs_nil (fun zz => rfl)) (fun zz => rfl)) (ok_fn hd) (fun zz => rfl)) (fun zz => rfl) (fun zz => rfl)) (SS_cons (S_app (ES_var 2 rfl (.inl rfl) rfl) (XE_of (ES_tup (ESs_cons (ES_var 5 rfl (.inl rfl) rfl) (ESs_cons (ES_bin (ES_sub (ES_sub (ES_var 2 rfl (.inl rfl) rfl) (ES_un ES_int ok_neg) (fun zz zz => rfl)) ES_int (fun zz zz => rfl)) (ES_bin (ES_var 4 rfl (.inl rfl) rfl) (ES_sub (ES_sub (ES_var 2 rfl (.inl rfl) rfl) (ES_un ES_int ok_neg) (fun zz zz => rfl)) ES_int (fun zz zz => rfl)) ok_mul) ok_sub) ESs_nil (fun zz => rfl)) (fun zz => rfl)))) (fun zz => rfl) (MC_of rfl fun zz => rfl) (fun zz => rfl)) SS_nil))) (fun zz => rfl) (fun zz zz => rfl)) (SS_cons (S_ret (ES_var 2 rfl (.inl rfl) rfl)) SS_nil))), (by exact takesK2 fun zz zz zz zz zz zz zz zz zz => BindsTo.of_eq rfl), ⟨rfl, by decide, by decide, rfl, rfl, rfl, rfl, by kernel_rfl⟩⟩
noncomputable def W_int_divmod (opD opP : List P → Option P) : SW := (wSeq (wIf (cB (lift2 eqP (cV 1) (cK (.int 0)))) wAny (wSeq (wIf (cB (lift2 ltP (cV 1) (cK (.int 0)))) (wSeq (wUnp [2, 3] (cApp (opF opD) (cCons (lift1 negP (cV 0)) (cCons (lift1 negP (cV 1)) cNil)))) (wSeq (wRet (cTup (cCons (cV 2) (cCons (lift1 negP (cV 3)) cNil)))) wNil)) (wSeq (wIf (cB (lift2 ltP (cV 0) (cK (.int 0)))) (wSeq (wUnp [2, 3] (cApp (opF opD) (cCons (lift1 invP (cV 0)) (cCons (cV 1) cNil)))) (wSeq (wRet (cTup (cCons (lift1 invP (cV 2)) (cCons (lift2 addP (cV 1) (lift1 invP (cV 3))) cNil)))) wNil)) (wSeq (wRet (cApp (opF opP) (cCons (cV 0) (cCons (cV 1) cNil)))) wNil)) wNil)) wNil)) wNil)
theorem d_int_divmod {rm : Nat} {opD opP : List P → Option P} (hd : Fn rm 56 opD) (hp : Fn rm 49 opP) : ∃ qual params body cs dV kV, FnRec 56 qual params body cs dV kV ∧ SS rm cs body (W_int_divmod opD opP) ∧ TakesPos qual params body cs dV kV [Str.ofString "a", Str.ofString "b"] ∧ Plain cs [Str.ofString "a", Str.ofString "b"] 5 :=
 ⟨_, _, _, _, _, _, ⟨fun w => ⟨_, _, _, _, _, _, _, _, _, by rfl, by kernel_rfl⟩⟩, (SS_cons (S_if (CT_cmp (ES_var 1 rfl (.inl rfl) rfl) ES_int ok_eq rfl) SS_any (SS_cons (S_if (CT_cmp (ES_var 1 rfl (.inl rfl) rfl) ES_int ok_lt rfl) (SS_cons (S_unp (Tgts.cons (i := 2) rfl (.inl rfl) (Tgts.cons (i := 3) rfl (.inl rfl) Tgts.nil)) (ES_callF 5 fk_int_divmod rfl (ESs_cons (ES_un (ES_var 0 rfl (.inl rfl) rfl) ok_neg) (ESs_cons (ES_un (ES_var 1 rfl (.inl rfl) rfl) ok_neg) ESs_nil (fun zz => rfl)) (fun zz => rfl)) (ok_fn hd) (fun zz => rfl)) (fun zz => rfl) (fun zz => rfl)) (SS_cons (S_ret (ES_tup (ESs_cons (ES_var 2 rfl (.inl rfl) rfl) (ESs_cons (ES_un (ES_var 3 rfl (.inl rfl) rfl) ok_neg) ESs_nil (fun zz => rfl)) (fun zz => rfl)))) SS_nil)) (SS_cons (S_if (CT_cmp (ES_var 0 rfl (.inl rfl) rfl) ES_int ok_lt rfl) (SS_cons (S_unp (Tgts.cons (i := 2) rfl (.inl rfl) (Tgts.cons (i := 3) rfl (.inl rfl) Tgts.nil)) (ES_callF 5 fk_int_divmod rfl (ESs_cons (ES_un (ES_var 0 rfl (.inl rfl) rfl) ok_inv) (ESs_cons (ES_var 1 rfl (.inl rfl) rfl) ESs_nil (fun zz => rfl)) (fun zz => rfl)) (ok_fn hd) (fun zz => rfl)) (fun zz => rfl) (fun zz => rfl)) (SS_cons (S_ret (ES_tup (ESs_cons (ES_un (ES_var 2 rfl (.inl rfl) rfl) ok_inv) (ESs_cons (ES_bin (ES_var 1 rfl (.inl rfl) rfl) (ES_un (ES_var 3 rfl (.inl rfl) rfl) ok_inv) ok_add) ESs_nil (fun zz => rfl)) (fun zz => rfl)))) SS_nil)) (SS_cons (S_ret (ES_callF 6 fk_divmod_pos rfl (ESs_cons (ES_var 0 rfl (.inl rfl) rfl) (ESs_cons (ES_var 1 rfl (.inl rfl) rfl) ESs_nil (fun zz => rfl)) (fun zz => rfl)) (ok_fn hp) (fun zz => rfl))) SS_nil)) SS_nil)) SS_nil)) SS_nil), (by exact takesK2 fun zz zz zz zz zz zz zz zz zz => BindsTo.of_eq rfl), ⟨rfl, by decide, by decide, rfl, rfl, rfl, rfl, by kernel_rfl⟩⟩
noncomputable def W_divmod_pos (opI opV opG : List P → Option P) : SW := (wSeq (wSet 2 (lift1 bitsP (cV 1))) (wSeq (wSet 3 (cApp (opF opI) (cCons (cV 0) (cCons (cV 2) cNil)))) (wSeq (wSet 4 (cK (.int 0))) (wSeq (wNew 5 (nLst cNil)) (wSeq (wForRev (fun σ v => some (σ.put 6 v)) (cV 3) (wSeq (wUnp [7, 4] (cApp (opF opV) (cCons (lift2 addP (lift2 shlP (cV 4) (cV 2)) (cV 6)) (cCons (cV 1) (cCons (cV 2) cNil))))) (wSeq (wApp (cV 5) (xOf (cV 7))) wNil))) (wSeq (wRev (cV 5)) (wSeq (wSet 8 (cApp (opF opG) (cCons (cV 5) (cCons (cV 2) cNil)))) (wSeq (wRet (cTup (cCons (cV 8) (cCons (cV 4) cNil)))) wNil))))))))
theorem d_divmod_pos {rm : Nat} {opI opV opG : List P → Option P} (hi : Fn rm 35 opI) (hv : Fn rm 21 opV) (hg : Fn rm 42 opG) : ∃ qual params body cs dV kV, FnRec 49 qual params body cs dV kV ∧ SS rm cs body (W_divmod_pos opI opV opG) ∧ TakesPos qual params body cs dV kV [Str.ofString "a", Str.ofString "b"] ∧ Plain cs [Str.ofString "a", Str.ofString "b"] 11 :=
 ⟨_, _, _, _, _, _, ⟨fun w => ⟨_, _, _, _, _, _, _, _, _, by rfl, by kernel_rfl⟩⟩, (SS_cons (S_set 2 rfl (.inl rfl) (ES_bits (ES_var 1 rfl (.inl rfl) rfl) (MC_of rfl fun zz => rfl)) (fun zz zz => rfl)) (SS_cons (S_set 3 rfl (.inl rfl) (ES_callF 9 fk_int2digits rfl (ESs_cons (ES_var 0 rfl (.inl rfl) rfl) (ESs_cons (ES_var 2 rfl (.inl rfl) rfl) ESs_nil (fun zz => rfl)) (fun zz => rfl)) (ok_fn hi) (fun zz => rfl)) (fun zz zz => rfl)) (SS_cons (S_set 4 rfl (.inl rfl) ES_int (fun zz zz => rfl)) (SS_cons (S_new 5 rfl (.inl rfl) (NS_lst ESs_nil) (fun zz zz => rfl)) (SS_cons (S_forRev 10 bn_reversed rfl (AT_name 6 rfl (.inl rfl)) (ES_var 3 rfl (.inl rfl) rfl) (SS_cons (S_unp (Tgts.cons (i := 7) rfl (.inl rfl) (Tgts.cons (i := 4) rfl (.inl rfl) Tgts.nil)) (ES_callF 11 fk_div2n1n rfl (ESs_cons (ES_bin (ES_bin (ES_var 4 rfl (.inl rfl) rfl) (ES_var 2 rfl (.inl rfl) rfl) ok_shl) (ES_var 6 rfl (.inl rfl) rfl) ok_add) (ESs_cons (ES_var 1 rfl (.inl rfl) rfl) (ESs_cons (ES_var 2 rfl (.inl rfl) rfl) ESs_nil (fun zz => rfl)) (fun zz => rfl)) (fun zz => rfl)) (ok_fn hv) (fun zz => rfl)) (fun zz => rfl) (fun zz => rfl)) (SS_cons (S_app (ES_var 5 rfl (.inl rfl) rfl) (XE_of (ES_var 7 rfl (.inl rfl) rfl)) (fun zz => rfl) (MC_of rfl fun zz => rfl) (fun zz => rfl)) SS_nil)) (fun zz => rfl) (fun zz zz => rfl)) (SS_cons (S_rev (ES_var 5 rfl (.inl rfl) rfl) (MC_of rfl fun zz => rfl) PySem.F.type_list_reverse (fun zz => rfl)) (SS_cons (S_set 8 rfl (.inl rfl) (ES_callF 12 fk_digits2int rfl (ESs_cons (ES_var 5 rfl (.inl rfl) rfl) (ESs_cons (ES_var 2 rfl (.inl rfl) rfl) ESs_nil (fun zz => rfl)) (fun zz => rfl)) (ok_fn hg) (fun zz => rfl)) (fun zz zz => rfl)) (SS_cons (S_ret (ES_tup (ESs_cons (ES_var 8 rfl (.inl rfl) rfl) (ESs_cons (ES_var 4 rfl (.inl rfl) rfl) ESs_nil (fun zz => rfl)) (fun zz => rfl)))) SS_nil)))))))), (by exact takesK2 fun zz zz zz zz zz zz zz zz zz => BindsTo.of_eq rfl), ⟨rfl, by decide, by decide, rfl, rfl, rfl, rfl, by kernel_rfl⟩⟩
noncomputable def Gd.up (G : Gd) (h : Heap) (ex : List Addr) (ky : Ky) : Gd := { G with h₀ := hideAll h (ex ++ tb), ky := ky }
theorem CodeAll.keeps {h h' : Heap} (k : ∀ b o, h.get? b = some o → h'.get? b = some o) : ∀ {l : List (Addr × Addr)}, CodeAll l h → CodeAll l h'
 | [], _ => trivial
 | _ :: _, ⟨a, b⟩ => ⟨a.keeps k, CodeAll.keeps k b⟩
section
variable {G : Gd} {h : Heap} {ex : List Addr} {ky : Ky}
theorem Gd.up_sub (hG : G.Ok) (x : G.at h) (hx : ∀ a ∈ ex, G.h₀.get? a = none) : ∀ b o, G.h₀.get? b = some o → (G.up h ex ky).h₀.get? b = some o := fun b o e => hideAll_get _ (x.stay b o e) fun q => by
 rcases List.mem_append.mp q with q | q
 · rw [hx b q] at e; cases e
 · rw [hG.notab b q] at e; cases e
theorem Gd.up_at (x : G.at h) : (G.up h ex ky).at h := ⟨fun b o e => of_hideAll _ e, x.tabs⟩
theorem Gd.up_down (hG : G.Ok) (x : G.at h) (hx : ∀ a ∈ ex, G.h₀.get? a = none) {h' : Heap} (y : (G.up h ex ky).at h') : G.at h' := ⟨fun b o e => y.stay b o (Gd.up_sub hG x hx b o e), y.tabs⟩
theorem Gd.up_ok (hG : G.Ok) (x : G.at h) (hx : ∀ a ∈ ex, G.h₀.get? a = none) (k1 : (G.up h ex ky).KeyAt) (k2 : (G.up h ex ky).KamAt) (k3 : ((∃ ps r, ky.kap ps = some r) ∨ ky.on = true) → ∃ o fd, (G.up h ex ky).h₀.get? ky.a = some o ∧ o.data = .func fd) : (G.up h ex ky).Ok := by
 have k := Gd.up_sub (ky := ky) hG x hx
 obtain ⟨bm, ob, e1, e2, e3, e4, e5, e6⟩ := hG.bmain
 obtain ⟨mc, n1, n2⟩ := hG.nolimit
 obtain ⟨md, d1, d2⟩ := hG.nodigits
 exact ⟨fun p o e => k p o (hG.X p o e), hG.g.keeps k, hG.b.keeps k, hG.bl, ⟨mc, n1.keeps k, n2⟩, ⟨md, d1.keeps k, d2⟩, ⟨bm, ob, e1, e2, k _ _ e3, e4, e5, e6⟩, CodeAll.keeps k hG.code,
   fun t ht => hideAll_none _ (List.mem_append_right _ ht), k1, k2, k3⟩
end
structure NoCell (cs : Scope) (pn : List Str) : Prop where
 n : cs.names.take pn.length = pn.map (·, .local)
 nd : (cs.names.map (·.1)).Nodup
 cell : ∀ x ∈ cs.names, x.2 ≠ .cell
 k : cs.kind = .function
 co : cs.isCoroutine = false
 gen : cs.isGenerator = false
 mark : markOf cs = none
theorem NoCell.lk {cs : Scope} {pn : List Str} (C : NoCell cs pn) {x : Str} : cs.names.lookup x ≠ some .cell := fun e => C.cell _ (PySem.mem_of_lookup e) rfl
theorem NoCell.loc {cs : Scope} {pn : List Str} (C : NoCell cs pn) {ys : List Value} : ∀ y ∈ pn.zip ys, cs.names.lookup y.1 = some .local := by
 intro y hy
 have h1 : y.1 ∈ pn := (List.of_mem_zip (a := y.1) (b := y.2) hy).1
 obtain ⟨i, hi, e⟩ := List.getElem_of_mem h1
 refine lookup_of_nth (i := i) C.nd ?_
 have h2 : (cs.names.take pn.length)[i]? = some (y.1, .local) := by rw [C.n]; simp [hi, e]
 rw [List.getElem?_take, if_pos (by
   have : i < pn.length := hi
   exact this)] at h2
 exact h2
theorem NoCell.nodup {cs : Scope} {pn : List Str} (C : NoCell cs pn) : pn.Nodup := by
 have h3 : pn = (cs.names.map (·.1)).take pn.length := by
   rw [← List.map_take, C.n, List.map_map]; exact (List.map_id pn).symm
 rw [h3]
 exact C.nd.sublist (List.take_sublist _ _)
structure Base (G : Gd) (h : Heap) (cs : Scope) (cl : List (Str × Addr)) (k : Nat) (rest : List (Option V)) (mu ow : List Addr) (own : List (List P)) : Prop where
 loc : ∀ (i : Nat) x v, cs.names[k + i]? = some (x, .local) → rest[i]? = some (some v) → False
 free : ∀ (i : Nat) x v, cs.names[k + i]? = some (x, .free) → rest[i]? = some (some v) → ∃ c y, cl.lookup x = some c ∧ h.IsCell c (some y) ∧ VR h ow v y
 cells : ∀ x c, cl.lookup x = some c → ∃ v₀, h.IsCell c v₀
 inj : ∀ x y c, cl.lookup x = some c → cl.lookup y = some c → x = y
 ownA : OwnAt h ow own
 len : ow.length = own.length
 nd : ow.Nodup
 owf : ∀ a ∈ ow, a ∈ mu
 muA : ∀ a ∈ mu, a < h.objs.size
 g0 : ∀ b o, G.h₀.get? b = some o → b ∉ mu
 kl : G.ky.on = true → ow[0]? = some G.ky.lst
theorem Base.none {G : Gd} {h : Heap} {cs : Scope} {k m : Nat} (hon : G.ky.on = false) : Base G h cs [] k (List.replicate m none) [] [] [] := by
 refine ⟨fun i x v zz e => ?_, fun i x v zz e => ?_, fun x c e => by simp at e, fun x y c e => by simp at e, fun i a xs e => by simp at e, rfl, List.nodup_nil, fun a ha => by simp at ha, fun a ha => by simp at ha, fun b o zz => by simp, fun e => by rw [hon] at e; cases e⟩
 · simp [List.getElem?_replicate] at e
 · simp [List.getElem?_replicate] at e
theorem start {G : Gd} {s : Shared} {cs : Scope} {cl : List (Str × Addr)} {pn : List Str} {rest : List (Option V)} {mu ow : List Addr} {own : List (List P)} {xs : List P} {ys : List Value} {h₁ : Heap} {f : Addr} {cdv : Value} {qual : Str} {tk : Nat}
   (ok : G.at s.heap) (C : NoCell cs pn) (B : Base G s.heap cs cl pn.length rest mu ow own) (hv : PVs (· ∉ ow) s.heap xs ys) (hxl : xs.length = pn.length)
   (hns : h₁.Ns s.heap.objs.size (fun x => (pn.zip ys).reverse.lookup x)) (hst : ∀ (b : Addr) (o : Obj), s.heap.get? b = some o → h₁.get? b = some o) :
   Fi.Ok G ⟨qual, cs, s.heap.objs.size, s.heap.objs.size, some f, cdv, cl⟩ mu s.heap ∧ Rp G ⟨qual, cs, s.heap.objs.size, s.heap.objs.size, some f, cdv, cl⟩ mu s ⟨xs.map (fun x => some (.p x)) ++ rest, own, G.ky⟩ ow { s with heap := h₁, toks := tk } := by
 have hlen : ys.length = pn.length := hv.len.trans hxl
 have vr : ∀ {v y}, VR s.heap ow v y → VR h₁ ow v y := fun {v y} q => by
   cases v with
   | p x => exact PV.mono (fun b o e zz zz => hst b o e) (fun zz zz zz k => k) q
   | own i => exact q
 refine ⟨⟨C.k, C.nd, Nat.le_refl _, fun x c e => absurd e C.lk, fun x e => absurd e C.lk, B.inj, fun b o e => ⟨Heap.lt_size (ok.stay b o e), B.g0 b o e⟩, B.muA, fun c q e => by rw [show markOf cs = none from C.mark] at e; cases e⟩, ⟨⟨_, _, rfl⟩, ⟨fun b o e => hst b o (ok.stay b o e), fun q hq => let ⟨ps, e, t, c⟩ := ok.tabs q hq; ⟨ps, hst _ _ e, t, fun pos cv hc => (c pos cv hc).keeps hst⟩⟩, .of hst, ⟨_, hns, fun i x v e1 e2 => ?_⟩, fun i x k v e1 e2 e3 => ?_, fun x c e => let ⟨v, q⟩ := B.cells x c e; ⟨v, q.keeps hst⟩, fun i a zs e1 e2 => ?_, B.len, B.nd, fun a ha => .inr (B.owf a ha), rfl, B.kl⟩⟩
 · by_cases hi : i < xs.length
   · rw [List.getElem?_append_left (by simpa using hi)] at e2
     simp only [List.getElem?_map, Option.map_eq_some_iff] at e2
     obtain ⟨p, hp, e2⟩ := e2
     obtain rfl := sij e2
     obtain ⟨y, hy, py⟩ := hv.get hp
     have hpi : pn[i]? = some x := by
       have h2 : (cs.names.take pn.length)[i]? = some (x, .local) := by
         rw [List.getElem?_take, if_pos (by exact m9 ‹_› ‹_›)]; exact e1
       rw [C.n] at h2
       simp only [List.getElem?_map, Option.map_eq_some_iff, Prod.mk.injEq] at h2
       refine wg fun P' bk => ?_
       obtain ⟨z, h3, h4, _⟩ := h2
       refine bk ?_
       rw [h3, h4]
     exact ⟨y, (zip_lookup C.nodup hpi hlen).trans hy, vr (v := .p p) py⟩
   · rw [List.getElem?_append_right (by simpa using hi)] at e2
     simp only [List.length_map] at e2
     refine (B.loc (i - xs.length) x v ?_ e2).elim
     rw [← hxl, Nat.add_sub_cancel' (Nat.le_of_not_lt hi)]
     exact e1
 · rcases e2 with rfl | rfl
   · exact absurd rfl (C.cell _ (List.mem_of_getElem? e1))
   · by_cases hi : i < xs.length
     · have h2 : (cs.names.take pn.length)[i]? = some (x, .free) := by
         rw [List.getElem?_take, if_pos (by exact m9 ‹_› ‹_›)]; exact e1
       rw [C.n] at h2
       simp only [List.getElem?_map, Option.map_eq_some_iff, Prod.mk.injEq] at h2
       refine wg fun P' bk => ?_
       refine wg fun P' bk => ?_
       obtain ⟨z, h3, h4, h5⟩ := h2
       refine bk ?_
       cases h5
     · rw [List.getElem?_append_right (by simpa using hi)] at e3
       simp only [List.length_map] at e3
       obtain ⟨c, y, q1, q2, q3⟩ := B.free (i - xs.length) x v (by rw [← hxl, Nat.add_sub_cancel' (Nat.le_of_not_lt hi)]; exact e1) e3
       exact ⟨c, y, q1, q2.keeps hst, vr q3⟩
 · obtain ⟨us, n, q, p⟩ := B.ownA i a zs e1 e2
   exact ⟨us, n, hst _ _ q, p.mono (fun b o e zz zz => hst b o e) fun zz zz zz k => k⟩
noncomputable def oneP : Option V → Option P
 | some (.p x) => if noLst x = true then some x else none
 | _ => none
noncomputable def lamK (f : St → Option V) (rest : List (Option V)) : List P → Option P
 | [x] => oneP (f ⟨[some (.p x)] ++ rest, [], Ky.no⟩)
 | _ => none
theorem lam_call {G : Gd} {rm : Nat} {F : Addr} {name qual : Str} {params : Arguments} {body : PySem.Expr} {cs : Scope} {cl : List (Str × Addr)} {pm cdv ct : Value} {x₀ : Str} {f : St → Option V} {rest : List (Option V)} {h₀ : Heap}
   (hG : G.Ok) (hE : ES rm cs body f) (C : NoCell cs [x₀]) (hF : h₀.get? F = some { cls := .type "function", data := .func (kla_fn name qual params body cs cl pm cdv ct) }) (hcd : h₀.CodeRec cdv qual) (B : Base G.off h₀ cs cl 1 rest [] [] [])
   (hb : ∀ y, bindArgs (kla_fn name qual params body cs cl pm cdv ct) ⟨[y], []⟩ = pure [(x₀, y)]) :
   ∀ (s : Shared) (A : Around) (ps : List P) (ys : List Value) (r : P) (Q : Value → Shared → Prop), (∀ b o, h₀.get? b = some o → s.heap.get? b = some o) → G.at s.heap → Rm (rm + 1) A → PVs (fun zz => True) s.heap ps ys → lamK f rest ps = some r →
     (∀ y h' tk, PV (fun b => s.heap.objs.size ≤ b) h' r y → Old tb s.heap h' → G.at h' → Q y { s with heap := h', toks := tk }) → wpAny (model PG G.w) A (call (.ref F) ys) Q NoE s := fun s A ps ys r Q hst ok hm hv hr hQ => by
 unfold lamK at hr
 split at hr
 · rename_i x
   obtain ⟨y, _, rfl, py, rfl⟩ := hv
   have hlim : s.heap.NoLimit := let ⟨mc, n, q⟩ := hG.nolimit; ⟨mc, n.keeps ok.stay, q⟩
   have Bs : Base G.off s.heap cs cl 1 rest [] [] [] := ⟨B.loc, fun i z v e1 e2 => by
     obtain ⟨c, y, q1, q2, q3⟩ := B.free i z v e1 e2
     refine ⟨c, y, q1, q2.keeps hst, ?_⟩
     cases v with
     | p x => exact PV.mono (fun b o e zz zz => hst b o e) (fun zz zz zz k => k) q3
     | own i => exact q3, fun z c e => let ⟨v, q⟩ := B.cells z c e; ⟨v, q.keeps hst⟩, B.inj, fun i a xs e => by simp at e, rfl, List.nodup_nil, fun a ha => by simp at ha, fun a ha => by simp at ha, B.g0, B.kl⟩
   refine wpAny_call (kla_callFunE (by have := hm.dp; exact m4 ‹_›) (hst _ _ hF) rfl C.co C.gen rfl (hcd.keeps hst) ?_)
   rw [hb]
   refine wpAny_pure (wpAny_newFunctionEnv (fun z hz => C.cell z hz) (C.loc (ys := [y])) (fun h₁ hns hsb => ⟨hlim.fresh _ hsb, ?_⟩) C.k)
   have hst₁ : ∀ b o, s.heap.get? b = some o → h₁.get? b = some o := fun b o e => hsb.extBut b o (Nat.ne_of_lt (Heap.lt_size e)) (Heap.get?_push_of_some _ e)
   obtain ⟨hΓ, R⟩ := start (G := G.off) (tk := s.toks + [(x₀, y)].length) (f := F) (cdv := cdv) (qual := qual) (xs := [x]) (ys := [y]) ok.of C Bs ⟨y, [], rfl, PV.mono (fun b o e zz zz => e) (fun b o e zz => by simp) py, rfl⟩ rfl hns hst₁
   have hm' : RmG rm ⟨qual, cs, s.heap.objs.size, s.heap.objs.size, some F, cdv, cl⟩ (A.deeper (Fi.env ⟨qual, cs, s.heap.objs.size, s.heap.objs.size, some F, cdv, cl⟩)) := .of ⟨hm.hd, by have := hm.dp; show A.depth + 1 + rm < _; exact m5 ‹_›, by have := hm.un; show A.units + 3 + 10 * rm < _; lia⟩ (by rw [show markOf cs = none from C.mark]; nofun)
   refine kla_codeExpr ?_
   cases hfv : f ⟨[some (.p x)] ++ rest, [], Ky.no⟩ with
   | none => rw [hfv] at hr; cases hr
   | some v =>
     rw [hfv] at hr
     cases v with
     | own i => cases hr
     | p z =>
       simp only [oneP, Option.ite_none_right_eq_some, Option.some.injEq] at hr
       obtain ⟨hz, rfl⟩ := hr
       refine wpAny_mono (hE G.off ⟨qual, cs, s.heap.objs.size, s.heap.objs.size, some F, cdv, cl⟩ [] s _ [] _ (.p z) (A.deeper (Fi.env ⟨qual, cs, s.heap.objs.size, s.heap.objs.size, some F, cdv, cl⟩)) (fun v s' => Q v s') hG.off hΓ rfl hfv R hm' fun u s' vu R' o' => ?_) (fun zz zz h => h) fun zz zz h => h.elim
       obtain ⟨h', tk', rfl⟩ := R'.sh
       exact hQ u h' tk' (PV.any hz vu) R'.old R'.ok.off
 · cases hr
theorem codeAmong_app {pos : Pos} : ∀ (l r : List Value), TriplesOk l → codeAmong pos (l ++ r) = (codeAmong pos l).orElse fun zz => codeAmong pos r := by
 intro l r h
 fun_induction TriplesOk l with
 | case1 => simp [codeAmong]
 | case2 a t b u x rest ih =>
   dsimp only [List.cons_append, codeAmong]
   split
   · rfl
   · exact ih h
 | case3 l h1 h2 => exact h.elim
theorem tq_one {P : Addr} {q q' : Str} (h : (P, q) ∈ tq) (h' : (P, q') ∈ tq) : q = q' := by
 simp only [tq, List.mem_cons, List.not_mem_nil, or_false, Prod.mk.injEq] at h h'
 rcases h with ⟨rfl, rfl⟩ | ⟨rfl, rfl⟩ | ⟨rfl, rfl⟩ | ⟨rfl, rfl⟩ <;> rcases h' with ⟨e, rfl⟩ | ⟨e, rfl⟩ | ⟨e, rfl⟩ | ⟨e, rfl⟩ <;> first | rfl | (exfalso; revert e; decide)
theorem tq_tb {P : Addr} {q : Str} (h : (P, q) ∈ tq) : P ∈ tb := by
 simp only [tq, List.mem_cons, List.not_mem_nil, or_false, Prod.mk.injEq] at h
 rcases h with ⟨rfl, rfl⟩ | ⟨rfl, rfl⟩ | ⟨rfl, rfl⟩ | ⟨rfl, rfl⟩ <;> decide
theorem code_at {h : Heap} {c P : Addr} : ∀ {l : List (Addr × Addr)}, CodeAll l h → (c, P) ∈ l → CodeHd h c P
 | _ :: _, ⟨a, b⟩, m => by
   rcases List.mem_cons.mp m with e | m
   · cases e; exact a
   · exact code_at b m
theorem tab_more {G : Gd} {h h' : Heap} {P c' : Addr} {q : Str} {ps : Array Value} {line col : Int} (ok : G.at h) (hG : G.Ok) (hq : (P, q) ∈ tq) (hP : h.get? P = some (tabObj ps)) (hx : Heap.ExtBut P h h') (hP' : h'.get? P = some (tabObj (ps ++ #[rawInt line, rawInt col, .ref c'])))
   (hrec : h'.CodeRec (.ref c') q) (hc' : ∀ o, h.get? c' = some o → False) : G.at h' := by
 refine ⟨fun b o e => hx b o (fun z => ?_) (ok.stay b o e), fun r hr => ?_⟩
 · subst z; rw [hG.notab _ (tq_tb hq)] at e; cases e
 · by_cases hrP : r.1 = P
   · obtain ⟨r1, r2⟩ := r
     subst hrP
     have := tq_one hr hq
     subst this
     obtain ⟨ps', e, t, cc⟩ := ok.tabs (r1, r2) hr
     have : ps' = ps := by rw [hP] at e; cases e; rfl
     subst this
     have hl : (ps' ++ #[rawInt line, rawInt col, .ref c']).toList = ps'.toList ++ [rawInt line, rawInt col, .ref c'] := by simp
     refine ⟨_, hP', by rw [hl]; exact TriplesOk_snoc _ _ _ _ t, fun pos cv hcv => ?_⟩
     rw [hl, codeAmong_app _ _ t] at hcv
     cases hf : codeAmong pos ps'.toList with
     | some cv' =>
       rw [hf] at hcv; obtain rfl := sij hcv
       obtain ⟨c₁, o, vs, tt, e1, e2, e3, e4⟩ := cc pos _ hf
       refine ⟨c₁, o, vs, tt, e1, hx c₁ o (fun z => ?_) e2, e3, e4⟩
       subst z
       rw [hP] at e2; obtain rfl := sij e2
       cases e3
       refine triples_no_str t r2 tt ?_
       rw [Array.getElem?_toList]
       exact e4
     | none =>
       rw [hf] at hcv
       dsimp only [Option.orElse, codeAmong, rawInt] at hcv
       split at hcv
       · obtain rfl := sij hcv; exact hrec
       · cases hcv
   · obtain ⟨ps', e, t, cc⟩ := ok.tabs r hr
     refine ⟨ps', hx _ _ hrP e, t, fun pos cv hcv => ?_⟩
     obtain ⟨c₁, o, vs, tt, e1, e2, e3, e4⟩ := cc pos cv hcv
     refine ⟨c₁, o, vs, tt, e1, hx c₁ o (fun z => ?_) e2, e3, e4⟩
     subst z
     obtain ⟨ps'', e', t', _⟩ := ok.tabs _ hq
     have e'' : h.get? c₁ = some (tabObj ps'') := e'
     rw [e''] at e2; obtain rfl := sij e2
     cases e3
     refine triples_no_str t' r.2 tt ?_
     rw [Array.getElem?_toList]
     exact e4
section
variable {G : Gd} {Γ : Fi} {mu : List Addr} {s₀ s : Shared} {σ : St} {ow : List Addr} {A : Around} {Q : Value → Shared → Prop} {E : Value → Shared → Prop}
theorem bmain_at (hG : G.Ok) (ok : G.at s.heap) {P : Addr} {q : Str} (hq : (P, q) ∈ tq) : s.heap.BuiltinsAt G.mg P ∧ mainGlobals ≠ P := by
 obtain ⟨bm, ob, b1, b2, b3, b4, b5, b6⟩ := hG.bmain
 obtain ⟨o, es, ep, e, hd, _⟩ := hG.g
 have hP := hG.notab P (tq_tb hq)
 exact ⟨⟨bm, ob, b1, b2, fun z => (by subst z; rw [e] at b3; cases b3; rw [hd] at b6; cases b6), fun z => (by subst z; rw [hP] at b3; cases b3), ok.stay _ _ b3, b4, b5, b6⟩, fun z => (by rw [z, hP] at e; cases e)⟩
theorem mk_lam {c P : Addr} {cn name : Str} {params : Arguments} {body : PySem.Expr} {scope : Scope} {clos : List (Str × Addr)} {pos : Pos} {firstLine : Nat} {qual : Str} (hP : (c, P) ∈ tbs) (hq : (P, qual) ∈ tq) (hmk : Γ.ccd = .ref c) (hcl : closureFor scope Γ.env = pure clos) (hG : G.Ok) (ok : G.at s.heap)
   (hQ : ∀ F pm cdv ct h' tk, Old tb s.heap h' → G.at h' → h'.get? F = some { cls := .type "function", data := .func (kla_fn name qual params body scope clos pm cdv ct) } → h'.CodeRec cdv qual → s.heap.objs.size ≤ F → Q (.ref F) { s with heap := h', toks := tk }) :
   wpAny (model PG G.w) A (makeFunction name qual params (.expr body) scope Γ.env [] [] [] pos firstLine) Q E s := by
 refine wg fun P' bk => ?_
 obtain ⟨ps, hps, ht, hcc⟩ := ok.tabs (P, qual) hq
 have C : CodeHd s.heap c P := (code_at hG.code hP).keeps ok.stay
 obtain ⟨hb, hgP⟩ := bmain_at hG ok hq
 have hg := hG.g.keeps ok.stay
 refine bk ?_
 cases hf : codeAmong pos ps.toList with
 | some cv =>
   refine kla_makeFunctionHit (mg := G.mg) hcl rfl hg hmk C hps ht hf hb fun ctv h' tk hk hsz => ?_
   have ok' : G.at h' := ⟨fun b o e => hk b o (ok.stay b o e), fun q hq => let ⟨ps, e, t, c⟩ := ok.tabs q hq; ⟨ps, hk _ _ e, t, fun pos cv hc => (c pos cv hc).keeps hk⟩⟩
   exact hQ _ _ _ _ _ _ ((Old.of hk).trans (.push _)) (Gd.at.push (s := { s with heap := h' }) ok' _) (Heap.get?_push_size _ rfl) (((hcc pos cv hf).keeps hk).push _) hsz
 | none =>
   refine kla_makeFunction (mg := G.mg) hcl rfl hg hmk C hps ht hf hgP hb fun c' ctv h' tk hx hge hlt hrec htb => ?_
   have ok' : G.at h' := tab_more ok hG hq hps hx htb hrec fun o e => absurd (Heap.lt_size e) (Nat.not_lt.mpr hge)
   refine hQ _ _ _ _ _ _ (Old.trans (fun b o hn e => hx b o (fun z => hn (z ▸ tq_tb hq)) e) (.push _)) (Gd.at.push (s := { s with heap := h' }) ok' _) (Heap.get?_push_size _ rfl) (hrec.push _) ?_
   exact Nat.le_of_lt (Nat.lt_of_le_of_lt hge hlt)
theorem mk_fun {c P : Addr} {cn name : Str} {params : Arguments} {body : List Stmt} {scope : Scope} {clos : List (Str × Addr)} {pos : Pos} {firstLine : Nat} {qual : Str} (hP : (c, P) ∈ tbs) (hq : (P, qual) ∈ tq) (hmk : Γ.ccd = .ref c) (hcl : closureFor scope Γ.env = pure clos) (hG : G.Ok) (ok : G.at s.heap)
   (hQ : ∀ F doc pm cdv ct h' tk, Old tb s.heap h' → G.at h' → h'.get? F = some { cls := .type "function", data := .func (fnX name qual params body scope clos .none .none doc pm none cdv ct) } → h'.CodeRec cdv qual → s.heap.objs.size ≤ F → Q (.ref F) { s with heap := h', toks := tk }) :
   wpAny (model PG G.w) A (makeFunction name qual params (.stmts body) scope Γ.env [] [] [] pos firstLine) Q E s := by
 refine wg fun P' bk => ?_
 obtain ⟨ps, hps, ht, hcc⟩ := ok.tabs (P, qual) hq
 have C : CodeHd s.heap c P := (code_at hG.code hP).keeps ok.stay
 obtain ⟨hb, hgP⟩ := bmain_at hG ok hq
 have hg := hG.g.keeps ok.stay
 refine bk ?_
 cases hf : codeAmong pos ps.toList with
 | some cv =>
   refine makeFunction_hit (mg := G.mg) hcl rfl hg hmk C hps ht hf hb fun ctv doc h' tk hk hsz => ?_
   have ok' : G.at h' := ⟨fun b o e => hk b o (ok.stay b o e), fun q hq => let ⟨ps, e, t, c⟩ := ok.tabs q hq; ⟨ps, hk _ _ e, t, fun pos cv hc => (c pos cv hc).keeps hk⟩⟩
   exact hQ _ _ _ _ _ _ _ ((Old.of hk).trans (.push _)) (Gd.at.push (s := { s with heap := h' }) ok' _) (Heap.get?_push_size _ rfl) (((hcc pos cv hf).keeps hk).push _) hsz
 | none =>
   refine makeFunction_K (mg := G.mg) hcl rfl hg hmk C hps ht hf hgP hb fun c' ctv doc h' tk hx hge hlt hrec htb => ?_
   have ok' : G.at h' := tab_more ok hG hq hps hx htb hrec fun o e => absurd (Heap.lt_size e) (Nat.not_lt.mpr hge)
   refine hQ _ _ _ _ _ _ _ (Old.trans (fun b o hn e => hx b o (fun z => hn (z ▸ tq_tb hq)) e) (.push _)) (Gd.at.push (s := { s with heap := h' }) ok' _) (Heap.get?_push_size _ rfl) (hrec.push _) ?_
   exact Nat.le_of_lt (Nat.lt_of_le_of_lt hge hlt)
end
noncomputable def cKey (rm : Nat) (f : St → Option V) (fs : St → Option (List V)) : St → Option V := fun σ => match f σ, fs σ with
 | some (.p (.raw (.ref F))), some vs => if F = σ.ky.a ∧ σ.ky.n ≤ rm then ((toPs σ vs).bind σ.ky.kap).map .p else none
 | _, _ => none
section
variable {rm : Nat} {cs : Scope}
theorem cKey_inv {rm : Nat} {f : St → Option V} {fs : St → Option (List V)} {σ : St} {v : V} (h : cKey rm f fs σ = some v) : ∃ F vs, f σ = some (.p (.raw (.ref F))) ∧ fs σ = some vs ∧ (if F = σ.ky.a ∧ σ.ky.n ≤ rm then ((toPs σ vs).bind σ.ky.kap).map V.p else none) = some v :=
 eO (F := fun o => cKey rm (fun _ => o) (fun _ => fs σ) σ) (o := f σ) h zr fun x1 e2 h => eV (F := fun o => cKey rm (fun _ => (some o)) (fun _ => fs σ) σ) (o := x1) h zn fun x3 e4 h => eR (F := fun o => cKey rm (fun _ => (some (V.p o))) (fun _ => fs σ) σ) (o := x3) h zr zn zn zn zn zn fun x5 e6 h => eF (F := fun o => cKey rm (fun _ => (some (V.p (P.raw o)))) (fun _ => fs σ) σ) (o := x5) h zr zr zr zn zm zm zm zm zn zn fun F e7 h => eO (F := fun o => cKey rm (fun _ => (some (V.p (P.raw (Value.ref F))))) (fun _ => o) σ) (o := fs σ) h zr fun vs e8 h => ⟨F, vs, e2.trans (congrArg some (e4.trans (congrArg V.p (e6.trans (congrArg P.raw (e7)))))), e8, h⟩
theorem ES_key {x : Str} {p pos : Pos} {e : PySem.Expr} {es : List PySem.Expr} {f : St → Option V} {fs : St → Option (List V)} (hf : ES rm cs (.Name x p) f) (hs : ESs rm cs (e :: es) fs) (he : ∀ env, starEach (e :: es) env = (false, eval e env) :: starEach es env) : ES rm cs (.Call (.Name x p) (e :: es) [] pos) (cKey rm f fs) := fun G Γ mu s₀ σ ow s v A Q hG hΓ hc hv R hm hQ => by
 obtain ⟨F, vs, h1, h2, hv⟩ := cKey_inv hv
 obtain ⟨hF, hv⟩ := ifS hv
 ·
   ·
     refine wg fun P' bk => ?_
     obtain ⟨r, hr, rfl⟩ := Option.map_eq_some_iff.mp hv
     obtain ⟨ps, hp, hr⟩ := Option.bind_eq_some_iff.mp hr
     rw [R.ky] at hF hr
     obtain ⟨o, fd, ho, hd⟩ := hG.fo (.inl ⟨ps, r, hr⟩)
     obtain ⟨rfl, hn⟩ := hF
     refine bk ?_
     with_reducible refine wpAny_Call_NameR ?_
     refine hf G Γ mu s₀ σ ow s _ A _ hG hΓ hc h1 R hm fun fv s₁ vf R₁ o₁ => ?_
     cases vf
     with_reducible refine callWith_def (o := o) (fd := fd) hd ?_ (he _)
     refine hs G Γ mu s₀ σ ow s₁ vs A _ _ hG hΓ hc h2 R₁ hm fun ys s₂ rs R₂ o₂ => ⟨R₂.ok.stay _ _ ho, ?_⟩
     refine hG.key s₂ A ps ys r Q R₂.ok (hm.toRm.mono hn) (toPs_view R₂ rs hp) hr fun y h' tk py o ok => ?_
     exact hQ y _ (py.mono (fun b o e zz zz => e) fun b ob e k z => absurd (R₂.ow_lt b z) (Nat.not_lt.mpr k)) (R₂.step tk o ok) ((o₁.trans o₂).trans o)
end
noncomputable def FnKw (rm : Nat) (f : Addr) (op : Ky → List P → Option P) : Prop :=
 ∀ (G : Gd) (s : Shared) (xs : List P) (ys : List Value) (r : P) (A : Around) (Q : Value → Shared → Prop), G.Ok → G.ky.on = false → G.at s.heap → Rm rm A → PVs (fun zz => True) s.heap xs ys → op G.ky xs = some r →
   (∀ y h' tk, PV (fun b => s.heap.objs.size ≤ b) h' r y → Old tb s.heap h' → G.at h' → Q y { s with heap := h', toks := tk }) → wpAny (model PG G.w) A (call (.ref f) ys [(Str.ofString "key", .ref G.ky.a)]) Q NoE s
noncomputable def retOf : Flow → Value
 | .ret v => v
 | _ => .none
theorem outs_view {G : Gd} {Γ : Fi} {s s' : Shared} {σ' : St} {ow' : List Addr} {fl : Fl} {fw : Flow} {r : P} (R' : Rp G Γ [] s σ' ow' s') (hf : FR s'.heap ow' fl fw) (hPo : Outs r fl σ') :
   PV (fun b => s.heap.objs.size ≤ b) s'.heap r (retOf fw) := by
 cases fl with
 | next =>
   cases hf
   have : r = .none := hPo
   subst this
   rfl
 | ret v =>
   obtain ⟨y, rfl, vy⟩ := hf
   have hr : outP σ' v = some r := hPo
   clear hPo
   cases v with
   | p x =>
     simp only [outP, Option.ite_none_right_eq_some, Option.some.injEq] at hr
     obtain ⟨hx, rfl⟩ := hr
     exact PV.any hx vy
   | own i =>
     obtain ⟨zs, hz, hr⟩ := Option.bind_eq_some_iff.mp hr
     simp only [Option.ite_none_right_eq_some, Option.some.injEq] at hr
     obtain ⟨hx, rfl⟩ := hr
     obtain ⟨a, ha, rfl⟩ := vy
     obtain ⟨us, n, q, p⟩ := R'.own i a zs ha hz
     simp only [PV]
     refine ⟨a, us, rfl, ?_, ⟨_, q, rfl, n, rfl⟩, PVs.any hx p⟩
     rcases R'.owf a (List.mem_of_getElem? ha) with h | h
     · exact h
     · simp at h
 | brk => exact (hPo : False).elim
 | cont => exact (hPo : False).elim
theorem fn_kw_of {rm : Nat} {f : Addr} {qual : Str} {params : Arguments} {body : List Stmt} {cs : Scope} {dV kV : Value} {W : SW} {op : Ky → List P → Option P} {pn : List Str} {m : Nat} (ext : List P → Addr → List P)
   (B : FnRec f qual params body cs dV kV) (hS : SS rm cs body W) (C : NoCell cs pn)
   (T : ∀ (name : Str) (doc pm : Value) (an : Option Addr) (cdv ct : Value) (w : World) (ky : Ky) (s : Shared) (xs : List P) (ys : List Value) (F : Addr), (KF w).In s.heap → (∃ r, op ky xs = some r) → PVs (fun zz => True) s.heap xs ys →
     ∃ zs, BindsTo s (fnX name qual params body cs [] dV kV doc pm an cdv ct) ⟨ys, [(Str.ofString "key", .ref F)]⟩ (pn.zip zs) ∧ PVs (fun zz => True) s.heap (ext xs F) zs)
   (hW : ∀ ky xs r, op ky xs = some r → (ext xs ky.a).length = pn.length ∧ W ⟨(ext xs ky.a).map (fun x => some (.p x)) ++ List.replicate m none, [], ky⟩ (Outs r)) : FnKw (rm + 1) f op := fun G s xs ys r A Q hG hon ok hm hv ho hQ => by
 obtain ⟨oc, od, osl, name, doc, pm, an, cdv, ct, hf, hcd⟩ := B.o G.w
 obtain ⟨hxl, hWx⟩ := hW G.ky xs r ho
 have K : (KF G.w).In s.heap := fun p o e => ok.stay p o (hG.X p o e)
 obtain ⟨zs, hB, hz⟩ := T name doc pm an cdv ct G.w G.ky s xs ys G.ky.a K ⟨r, ho⟩ hv
 have hlim : s.heap.NoLimit := let ⟨mc, n, q⟩ := hG.nolimit; ⟨mc, n.keeps ok.stay, q⟩
 refine wpAny_call (codeAny_call_def (fd := fnX name qual params body cs [] dV kV doc pm an cdv ct) (body := body) (binds := pn.zip zs) (by have := hm.dp; exact m4 ‹_›) (K _ _ hf) rfl hlim (codeRec_of K hcd) rfl hB (fun x hx => C.cell x hx) C.loc ?_ C.co C.gen C.k)
 intro h₀ hns hst
 obtain ⟨hΓ, R⟩ := start (tk := s.toks + (pn.zip zs).length) (f := f) (cdv := cdv) (qual := qual) ok C (Base.none (G := G) (h := s.heap) (cs := cs) (m := m) hon) (hz.mono (fun b o e zz zz => e) (fun b o e zz => by simp)) hxl hns hst
 have hm' : RmG rm ⟨qual, cs, s.heap.objs.size, s.heap.objs.size, some f, cdv, []⟩ (A.deeper (Fi.env ⟨qual, cs, s.heap.objs.size, s.heap.objs.size, some f, cdv, []⟩)) := .of ⟨hm.hd, by have := hm.dp; show A.depth + 1 + rm < _; exact m5 ‹_›, by have := hm.un; show A.units + 3 + 10 * rm < _; lia⟩ (by rw [show markOf cs = none from C.mark]; nofun)
 refine wpAny_mono (hS G ⟨qual, cs, s.heap.objs.size, s.heap.objs.size, some f, cdv, []⟩ [] s _ [] _ (A.deeper (Fi.env ⟨qual, cs, s.heap.objs.size, s.heap.objs.size, some f, cdv, []⟩)) (Outs r) (fun fl s' => Q (retOf fl) s') hG hΓ rfl hWx R hm' fun fl σ' ow' s' fw hPo R' g hf => ?_) (fun fl zz h => by cases fl <;> exact h) fun zz zz h => h.elim
 have pv := outs_view R' hf hPo
 obtain ⟨h', tk, rfl⟩ := R'.sh
 exact hQ _ h' tk pv R'.old R'.ok
theorem at66 (w : World) : (KF w).lookup 66 = some { cls := .type "tuple", data := .seq #[.int 0 284, .none] } := by rfl
noncomputable def extB : List P → Addr → List P
 | [a, x], F => [a, x, .int 0, .none, .raw (.ref F)]
 | [a, x, l, h], F => [a, x, l, h, .raw (.ref F)]
 | _, _ => []
noncomputable def TakesKey (qual : Str) (params : Arguments) (body : List Stmt) (cs : Scope) (dV kV : Value) (pn : List Str) (T : Addr) (t : Tok) : Prop :=
 (∀ (name : Str) (doc pm : Value) (an : Option Addr) (cdv ct : Value) (s : Shared) (y1 y2 F : Value), s.heap.get? T = some { cls := .type "tuple", data := .seq #[.int 0 t, .none] } →
   BindsTo s (fnX name qual params body cs [] dV kV doc pm an cdv ct) ⟨[y1, y2], [(Str.ofString "key", F)]⟩ (pn.zip [y1, y2, .int 0 t, .none, F])) ∧
 (∀ (name : Str) (doc pm : Value) (an : Option Addr) (cdv ct : Value) (s : Shared) (y1 y2 y3 y4 F : Value), s.heap.get? T = some { cls := .type "tuple", data := .seq #[.int 0 t, .none] } →
   BindsTo s (fnX name qual params body cs [] dV kV doc pm an cdv ct) ⟨[y1, y2, y3, y4], [(Str.ofString "key", F)]⟩ (pn.zip [y1, y2, y3, y4, F]))
theorem fn_kw_d {rm : Nat} {f : Addr} {W : SW} {op : Ky → List P → Option P} {pn : List Str} {n : Nat} {T : Addr} {t : Tok} (hl : pn.length = 5) (hT : ∀ w, (KF w).lookup T = some { cls := .type "tuple", data := .seq #[.int 0 t, .none] })
   (d : ∃ qual params body cs dV kV, FnRec f qual params body cs dV kV ∧ SS rm cs body W ∧ NoCell cs pn ∧ TakesKey qual params body cs dV kV pn T t ∧ cs.names.length = n)
   (hW : ∀ ky xs r, op ky xs = some r → (xs.length = 2 ∨ xs.length = 4) ∧ W ⟨(extB xs ky.a).map (fun x => some (.p x)) ++ List.replicate (n - 5) none, [], ky⟩ (Outs r)) : FnKw (rm + 1) f op := by
 refine wg fun P' bk => ?_
 obtain ⟨qual, params, body, cs, dV, kV, B, S, C, TK, rfl⟩ := d
 have h5 : ∀ (xs : List P) (F : Addr), (xs.length = 2 ∨ xs.length = 4) → (extB xs F).length = pn.length := fun xs F h => by
   rw [hl]
   match xs, h with
   | [_, _], _ => rfl
   | [_, _, _, _], _ => rfl
   | [], h => simp at h
   | [_], h => simp at h
   | [_, _, _], h => simp at h
   | _ :: _ :: _ :: _ :: _ :: _, h => simp at h
 refine bk ?_
 refine fn_kw_of extB B S C (fun name doc pm an cdv ct w ky s xs ys F K ⟨r, hr⟩ hv => ?_) (fun ky xs r h => ⟨h5 xs ky.a (hW ky xs r h).1, (hW ky xs r h).2⟩)
 have hx := (hW ky xs r hr).1
 match xs, hx with
 | [a, b], _ =>
   obtain ⟨y1, _, rfl, p1, y2, _, rfl, p2, rfl⟩ := hv
   exact ⟨[y1, y2, .int 0 t, .none, .ref F], TK.1 name doc pm an cdv ct s y1 y2 (.ref F) (K _ _ (hT w)), y1, _, rfl, p1, y2, _, rfl, p2, _, _, rfl, ⟨_, rfl⟩, _, _, rfl, rfl, _, _, rfl, rfl, rfl⟩
 | [a, b, c, d], _ =>
   obtain ⟨y1, _, rfl, p1, y2, _, rfl, p2, y3, _, rfl, p3, y4, _, rfl, p4, rfl⟩ := hv
   exact ⟨[y1, y2, y3, y4, .ref F], TK.2 name doc pm an cdv ct s y1 y2 y3 y4 (.ref F) (K _ _ (hT w)), y1, _, rfl, p1, y2, _, rfl, p2, y3, _, rfl, p3, y4, _, rfl, p4, _, _, rfl, rfl, rfl⟩
 | [], h => simp at h
 | [_], h => simp at h
 | [_, _, _], h => simp at h
 | _ :: _ :: _ :: _ :: _ :: _, h => simp at h
noncomputable def W_bisect_right (rm : Nat)  : SW := (wSeq (wIf (cB (lift2 ltP (cV 2) (cK (.int 0)))) wAny wNil) (wSeq (wIf (cB (lift2 isP (cV 3) (cK .none))) (wSeq (wSet 3 (cApp lenA (cCons (cV 0) cNil))) wNil) wNil) (wSeq (wIf (cB (lift2 isP (cV 4) (cK .none))) wAny (wSeq (wWhile (cB (lift2 ltP (cV 2) (cV 3))) (wSeq (wSet 5 (lift2 fdivP (lift2 addP (cV 2) (cV 3)) (cK (.int 2)))) (wSeq (wIf (cB (lift2 ltP (cV 1) (cKey rm (cV 4) (cCons (cSub (cV 0) (cV 5)) cNil)))) (wSeq (wSet 3 (cV 5)) wNil) (wSeq (wSet 2 (lift2 addP (cV 5) (cK (.int 1)))) wNil)) wNil))) wNil)) (wSeq (wRet (cV 2)) wNil))))
theorem d_bisect_right {rm : Nat}  : ∃ qual params body cs dV kV, FnRec 74 qual params body cs dV kV ∧ SS rm cs body (W_bisect_right rm ) ∧ NoCell cs [Str.ofString "a", Str.ofString "x", Str.ofString "lo", Str.ofString "hi", Str.ofString "key"] ∧ TakesKey qual params body cs dV kV [Str.ofString "a", Str.ofString "x", Str.ofString "lo", Str.ofString "hi", Str.ofString "key"] 66 284 ∧ cs.names.length = 8 :=
 ⟨_, _, _, _, _, _, ⟨fun w => ⟨_, _, _, _, _, _, _, _, _, by rfl, by kernel_rfl⟩⟩, (SS_cons (S_if (CT_cmp (ES_var 2 rfl (.inl rfl) rfl) ES_int ok_lt rfl) SS_any SS_nil) (SS_cons (S_if (CT_cmp (ES_var 3 rfl (.inl rfl) rfl) ES_none ok_is rfl) (SS_cons (S_set 3 rfl (.inl rfl) (ES_callB 7 bn_len rfl (ESs_cons (ES_var 0 rfl (.inl rfl) rfl) ESs_nil (fun zz => rfl)) ok_len (fun zz => rfl) (fun zz zz => rfl)) (fun zz zz => rfl)) SS_nil) SS_nil) (SS_cons (S_if (CT_cmp (ES_var 4 rfl (.inl rfl) rfl) ES_none ok_is rfl) SS_any (SS_cons (S_while (CT_cmp (ES_var 2 rfl (.inl rfl) rfl) (ES_var 3 rfl (.inl rfl) rfl) ok_lt rfl) (SS_cons (S_set 5 rfl (.inl rfl) (ES_bin (ES_bin (ES_var 2 rfl (.inl rfl) rfl) (ES_var 3 rfl (.inl rfl) rfl) ok_add) ES_int ok_fdiv) (fun zz zz => rfl)) (SS_cons (S_if (CT_cmp (ES_var 1 rfl (.inl rfl) rfl) (ES_key (ES_var 4 rfl (.inl rfl) rfl) (ESs_cons (ES_sub (ES_var 0 rfl (.inl rfl) rfl) (ES_var 5 rfl (.inl rfl) rfl) (fun zz zz => rfl)) ESs_nil (fun zz => rfl)) (fun zz => rfl)) ok_lt rfl) (SS_cons (S_set 3 rfl (.inl rfl) (ES_var 5 rfl (.inl rfl) rfl) (fun zz zz => rfl)) SS_nil) (SS_cons (S_set 2 rfl (.inl rfl) (ES_bin (ES_var 5 rfl (.inl rfl) rfl) ES_int ok_add) (fun zz zz => rfl)) SS_nil)) SS_nil))) SS_nil)) (SS_cons (S_ret (ES_var 2 rfl (.inl rfl) rfl)) SS_nil)))), ⟨rfl, by decide, by decide, rfl, rfl, rfl, by kernel_rfl⟩, ⟨fun zz zz zz zz zz zz zz zz zz zz h => BindsTo.of_defaults rfl h rfl rfl rfl, fun zz zz zz zz zz zz zz zz zz zz zz zz h => BindsTo.of_defaults rfl h rfl rfl rfl⟩, rfl⟩
section
variable {G : Gd} {h : Heap} {ky : Ky}
theorem hide_data (T : TabsOk h) {b : Addr} {o : Obj} (e : h.get? b = some o) (hd : ∀ vs, o.data ≠ .fields vs) : (hideAll h ([] ++ tb)).get? b = some o :=
 hideAll_get _ e fun q => let ⟨vs, z⟩ := tab_data T q e; hd vs z
theorem hide_rec (T : TabsOk h) {cv : Value} {q : Str} (x : h.CodeRec cv q) : (hideAll h ([] ++ tb)).CodeRec cv q := by
 obtain ⟨c, o, vs, t, e1, e2, e3, e4⟩ := x
 refine ⟨c, o, vs, t, e1, hideAll_get _ e2 fun z => ?_, e3, e4⟩
 have key : ∀ r ∈ tq, c = r.1 → False := fun r hr hc => by
   obtain ⟨ps, hp, ht, _⟩ := T r hr
   rw [← hc, e2] at hp
   cases hp; cases e3
   exact triples_no_str ht q t (by rw [Array.getElem?_toList]; exact e4)
 have z' : c ∈ tb := z
 simp only [tb, List.mem_cons, List.not_mem_nil, or_false] at z'
 rcases z' with rfl | rfl | rfl | rfl
 · exact key _ (.head _) rfl
 · exact key _ (.tail _ (.head _)) rfl
 · exact key _ (.tail _ (.tail _ (.head _))) rfl
 · exact key _ (.tail _ (.tail _ (.tail _ (.head _)))) rfl
structure Along (h : Heap) (cs : Scope) (cl : List (Str × Addr)) (k : Nat) (rest : List (Option V)) : Prop where
 loc : ∀ (i : Nat) x v, cs.names[k + i]? = some (x, .local) → rest[i]? = some (some v) → False
 free : ∀ (i : Nat) x v, cs.names[k + i]? = some (x, .free) → rest[i]? = some (some v) → ∃ c y, cl.lookup x = some c ∧ h.IsCell c (some y) ∧ VR h [] v y
 cells : ∀ x c, cl.lookup x = some c → ∃ v₀, h.IsCell c v₀
 inj : ∀ x y c, cl.lookup x = some c → cl.lookup y = some c → x = y
theorem Along.base {cs : Scope} {cl : List (Str × Addr)} {k : Nat} {rest : List (Option V)} (x : Along h cs cl k rest) (hon : G.ky.on = false) : Base G h cs cl k rest [] [] [] :=
 ⟨x.loc, x.free, x.cells, x.inj, fun i a xs e => by simp at e, rfl, List.nodup_nil, fun a ha => by simp at ha, fun a ha => by simp at ha, fun b o zz => by simp, fun e => by rw [hon] at e; cases e⟩
theorem Along.old {h' : Heap} {cs : Scope} {cl : List (Str × Addr)} {k : Nat} {rest : List (Option V)} (x : Along h cs cl k rest) (o : Old tb h h') (T : TabsOk h) : Along h' cs cl k rest :=
 ⟨x.loc, fun i n v e1 e2 => let ⟨c, y, q1, q2, q3⟩ := x.free i n v e1 e2; ⟨c, y, q1, o.cell T q2, q3.old o T⟩, fun n c e => let ⟨v, q⟩ := x.cells n c e; ⟨v, o.cell T q⟩, x.inj⟩
theorem Along.hide {cs : Scope} {cl : List (Str × Addr)} {k : Nat} {rest : List (Option V)} (x : Along h cs cl k rest) (T : TabsOk h) : Along (hideAll h ([] ++ tb)) cs cl k rest :=
 ⟨x.loc, fun i n v e1 e2 => let ⟨c, y, q1, ⟨o, q2, q2'⟩, q3⟩ := x.free i n v e1 e2; ⟨c, y, q1, ⟨o, hide_data T q2 (by rw [q2']; nofun), q2'⟩, by
   cases v with
   | p d => exact PV.mono (fun b o e ⟨vs, n, hd⟩ _ => hide_data T e (by rw [hd]; nofun)) (fun zz zz zz k => k) q3
   | own i => exact q3⟩, fun n c e => let ⟨v, o, q, q'⟩ := x.cells n c e; ⟨v, o, hide_data T q (by rw [q']; nofun), q'⟩, x.inj⟩
end
noncomputable def Takes (rm : Nat) (cs cs' : Scope) (rests : St → Option (List (Option V))) : Prop :=
 ∀ (G : Gd) (Γ : Fi) (mu : List Addr) (s₀ : Shared) (σ : St) (ow : List Addr) (s : Shared) (rest : List (Option V)), G.Ok → Γ.Ok G mu s₀.heap → Γ.cs = cs → Rp G Γ mu s₀ σ ow s → rests σ = some rest →
   ∃ clos, closureFor cs' Γ.env = pure clos ∧ Along s.heap cs' clos 1 rest
theorem takes0 {rm : Nat} {cs cs' : Scope} (h : ∀ env, closureFor cs' env = pure []) : Takes rm cs cs' (fun zz => some []) := fun G Γ mu s₀ σ ow s rest hG hΓ hc R e => by
 obtain rfl := sij e
 exact ⟨[], h _, fun i x v zz e => by simp at e, fun i x v zz e => by simp at e, fun x c e => by simp at e, fun x y c e => by simp at e⟩
theorem takes1 {rm : Nat} {cs cs' : Scope} (i : Nat) {x : Str} (hx : cs.names[i]? = some (x, .cell)) (hn : cs'.names[1]? = some (x, .free)) (h : ∀ env c, env.cells.lookup x = some c → closureFor cs' env = pure [(x, c)]) : Takes rm cs cs' (fun σ => (σ.vals[i]?).join.bind fun v => (toP σ v).map fun p => [some (.p p)]) := fun G Γ mu s₀ σ ow s rest hG hΓ hc R e => by
 refine wg fun P' bk => ?_
 obtain ⟨v, hv, e⟩ := Option.bind_eq_some_iff.mp e
 obtain ⟨p, hp, rfl⟩ := Option.map_eq_some_iff.mp e
 subst hc
 obtain ⟨c, y, q1, q2, q3⟩ := R.c i x _ v hx (.inl rfl) (join_some hv)
 have one : ∀ z d, ([(x, c)] : List (Str × Addr)).lookup z = some d → z = x ∧ d = c := fun z d e => by
   rw [List.lookup_cons] at e
   split at e
   · rename_i hz; obtain rfl := sij e; exact ⟨by simpa using hz, rfl⟩
   · cases e
 refine bk ?_
 refine ⟨[(x, c)], h _ c q1, fun j z u e1 e2 => ?_, fun j z u e1 e2 => ?_, fun z d e => ?_, fun z z' d e e' => ?_⟩
 · cases j with
   | zero =>
     have e1' : Γ.cs.names = Γ.cs.names := rfl
     rw [show 1 + 0 = 1 from rfl, hn] at e1
     cases e1
   | succ j => simp at e2
 · cases j with
   | zero =>
     rw [show 1 + 0 = 1 from rfl, hn] at e1
     cases e1
     simp only [List.getElem?_cons_zero, Option.some.injEq] at e2
     subst e2
     exact ⟨c, y, by simp [List.lookup_cons], q2, PV.mono (fun b o e zz zz => e) (fun b o e zz => by simp) (toP_view R q3 hp)⟩
   | succ j => simp at e2
 · obtain ⟨_, rfl⟩ := one z d e
   exact ⟨_, q2⟩
 · rw [(one z d e).1, (one z' d e').1]
section
variable {rm : Nat} {cs : Scope}
noncomputable def cKw (n : Nat) (op : Ky → List P → Option P) (g : St → Option V) (fs : St → Option (List V)) (rests : St → Option (List (Option V))) : St → Option V := fun σ => match (fs σ).bind (toPs σ), rests σ with
 | some ps, some rest => (op ⟨0, n, lamK g rest, false, 0, fun zz zz => none⟩ ps).map .p
 | _, _ => none
theorem lam_in_hand {G : Gd} {Γ : Fi} {mu : List Addr} {s₀ s : Shared} {σ : St} {ow : List Addr} {A : Around} {Q : Value → Shared → Prop} {rl : Nat} {c P' : Addr} {cn x₀ : Str} {params : Arguments} {lb : PySem.Expr} {cs' : Scope} {g : St → Option V} {rests : St → Option (List (Option V))} {rest : List (Option V)} {lpos : Pos}
   (hP : (c, P') ∈ tbs) (hq : (P', cn ++ Str.ofString ".<locals>." ++ Str.ofString "<lambda>") ∈ tq) (hm : markOf cs = some (c, cn)) (hd : ∀ env, defaultsOf params env = ([], [])) (hE : ES rl cs' lb g) (C : NoCell cs' [x₀]) (ht : Takes rm cs cs' rests)
   (hb : ∀ name qual cl pm cdv ct y, bindArgs (kla_fn name qual params lb cs' cl pm cdv ct) ⟨[y], []⟩ = pure [(x₀, y)])
   (hG : G.Ok) (hΓ : Γ.Ok G mu s₀.heap) (hc : Γ.cs = cs) (R : Rp G Γ mu s₀ σ ow s) (hr : rests σ = some rest)
   (hQ : ∀ F s', Rp G Γ mu s₀ σ ow s' → Old tb s.heap s'.heap → (G.up s'.heap [] ⟨F, rl + 1, lamK g rest, false, 0, fun zz zz => none⟩).Ok → (G.up s'.heap [] ⟨F, rl + 1, lamK g rest, false, 0, fun zz zz => none⟩).at s'.heap → (∀ h', (G.up s'.heap [] ⟨F, rl + 1, lamK g rest, false, 0, fun zz zz => none⟩).at h' → G.at h') → Q (.ref F) s') :
   wpAny (model PG G.w) A (eval (.Lambda params lb cs' lpos) Γ.env) Q NoE s := by
 refine wg fun P' bk => ?_
 obtain ⟨clos, hcl, al⟩ := ht G Γ mu s₀ σ ow s rest hG hΓ hc R hr
 obtain ⟨hcd, hcn⟩ := hΓ.mark c cn (hc ▸ hm)
 refine bk ?_
 refine kla_eval (hd _) ?_
 have hqq : Γ.env.qual ++ ("<lambda>" : Str) = cn ++ Str.ofString ".<locals>." ++ Str.ofString "<lambda>" := by rw [← hcn]
 rw [hqq]
 refine mk_lam (cn := cn) hP hq hcd hcl hG R.ok fun F pm cdv ct h' tk o ok hF hrec hsz => ?_
 have T := ok.tabs
 have hx : ∀ a ∈ ([] : List Addr), G.h₀.get? a = none := fun a ha => by simp at ha
 have al' := (al.old o R.ok.tabs).hide T
 have ok0 : (G.up h' [] Ky.no).Ok := Gd.up_ok hG ok hx (by intro s A ps ys r Q _ _ _ h; cases h) (by intro s A ps ys xs us n xs' Q h; cases h) (by rintro (⟨ps, r, h⟩ | h) <;> cases h)
 have hF' : (hideAll h' ([] ++ tb)).get? F = some { cls := .type "function", data := .func (kla_fn "<lambda>" (cn ++ Str.ofString ".<locals>." ++ Str.ofString "<lambda>") params lb cs' clos pm cdv ct) } := hide_data T hF nofun
 have call := lam_call (rm := rl) (G := G.up h' [] Ky.no) (h₀ := hideAll h' ([] ++ tb)) (x₀ := x₀) (f := g) (rest := rest) ok0 hE C hF' (hide_rec T hrec) (al'.base rfl) (fun y => hb _ _ _ _ _ _ y)
 refine hQ F _ (R.step tk o ok) o (Gd.up_ok hG ok hx ?_ (by intro s A ps ys xs us n xs' Q h; cases h) fun zz => ⟨_, _, hF', rfl⟩) (Gd.up_at ok) fun h'' y => Gd.up_down hG ok hx y
 intro s A ps ys r Q at' hm' hv hk hQ'
 exact call s A ps ys r Q at'.stay ⟨at'.stay, at'.tabs⟩ hm' hv hk fun y h'' tk' py o' ok' => hQ' y h'' tk' py o' ⟨ok'.stay, ok'.tabs⟩
theorem ES_kw (i : Nat) {x : Str} {f : Addr} {p pos lpos kpos : Pos} {e : PySem.Expr} {es : List PySem.Expr} {fs : St → Option (List V)} {op : Ky → List P → Option P} {rl : Nat} {c P' : Addr} {cn x₀ : Str} {params : Arguments} {lb : PySem.Expr} {cs' : Scope} {g : St → Option V} {rests : St → Option (List (Option V))}
   (B : FnK x f) (hx : cs.names[i]? = some (x, .globalImplicit)) (hs : ESs rm cs (e :: es) fs) (hf : FnKw rm f op) (hop : ∀ F n κ ps, op ⟨F, n, κ, false, 0, fun zz zz => none⟩ ps = op ⟨0, n, κ, false, 0, fun zz zz => none⟩ ps) (he : ∀ env, starEach (e :: es) env = (false, eval e env) :: starEach es env)
   (hP : (c, P') ∈ tbs) (hq : (P', cn ++ Str.ofString ".<locals>." ++ Str.ofString "<lambda>") ∈ tq) (hm : markOf cs = some (c, cn)) (hd : ∀ env, defaultsOf params env = ([], [])) (hE : ES rl cs' lb g) (C : NoCell cs' [x₀]) (ht : Takes rm cs cs' rests)
   (hb : ∀ name qual cl pm cdv ct y, bindArgs (kla_fn name qual params lb cs' cl pm cdv ct) ⟨[y], []⟩ = pure [(x₀, y)]) :
   ES rm cs (.Call (.Name x p) (e :: es) [⟨some (Str.ofString "key"), .Lambda params lb cs' lpos, kpos⟩] pos) (cKw (rl + 1) op g fs rests) := fun G Γ mu s₀ σ ow s v A Q hG hΓ hc hv R hm' hQ => by
 unfold cKw at hv
 split at hv
 · rename_i ps rest h1 h2
   refine wg fun P' bk => ?_
   obtain ⟨r, hr, rfl⟩ := Option.map_eq_some_iff.mp hv
   obtain ⟨vs, h0, h1⟩ := Option.bind_eq_some_iff.mp h1
   refine bk ?_
   with_reducible refine PySem.wpAny_Call_Name_kw ?_
   refine name_G i B.n hG hΓ (hc ▸ hx) R.ok ?_
   refine wg fun P' bk => ?_
   obtain ⟨o, fd, ho', hdf⟩ := B.o G.w
   refine bk ?_
   refine PySem.callWith_function_kw (o := o) (fd := fd) ?_
   have hargs : backTo pos (starEach (e :: es) Γ.env) = (false, eval e Γ.env) :: backTo pos (starEach es Γ.env) := by rw [he]; rfl
   rw [hargs]
   refine PySem.evalArgs_kw rfl ?_
   rw [← hargs]
   refine hs G Γ mu s₀ σ ow s vs A pos _ hG hΓ hc h0 R hm' fun xs s₁ rs R₁ o₁ => ?_
   show wpAny (model PG G.w) A (evalAll [do let v ← eval (.Lambda params lb cs' lpos) Γ.env; standAt pos; pure v]) _ NoE s₁
   refine PySem.wpAny_evalAll_cons (wpAny_bind ?_)
   refine lam_in_hand (rm := rm) (R := R₁) hP hq hm hd hE C ht hb hG hΓ hc h2 fun F s₂ R₂ o₂ ok' at' back => ?_
   refine wpAny_bind (wpAny_standAt (wpAny_pure ?_))
   refine PySem.wpAny_evalAll_nil ⟨⟨R₂.ok.stay _ _ (hG.X _ _ ho'), hdf⟩, ?_⟩
   show wpAny (model PG G.w) A (call (.ref f) ([] ++ xs) [(Str.ofString "key", .ref F)]) Q NoE s₂
   rw [List.nil_append]
   refine hf (G.up s₂.heap [] ⟨F, rl + 1, lamK g rest, false, 0, fun zz zz => none⟩) s₂ ps xs r A Q ok' rfl at' hm'.toRm (PVs.old o₂ R₁.ok.tabs (toPs_view R₁ rs h1)) ((hop _ _ _ _).trans hr) fun y h' tk py o₃ ok₃ => ?_
   exact hQ y _ (py.mono (fun b o e zz zz => e) fun b ob e k z => absurd (R₂.ow_lt b z) (Nat.not_lt.mpr k)) (R₂.step tk o₃ (back _ ok₃)) ((o₁.trans o₂).trans o₃)
 · cases hv
end
noncomputable def clStep (env : Env) (x : Str × NameKind) (r : List (Str × Addr)) : Sem (ForInStep (List (Str × Addr))) := match x with
 | (name, kind) => if kind == .free then (do let a ← cellOf env name; pure (ForInStep.yield ((name, a) :: r))) else pure (ForInStep.yield r)
theorem closureFor_eq {scope : Scope} {env : Env} (g : Str → Addr) (h : ∀ x, (x, NameKind.free) ∈ scope.names → env.cells.lookup x = some (g x)) :
   closureFor scope env = pure (((scope.names.filter fun p => p.2 == .free).map fun p => (p.1, g p.1)).reverse) := by
 have key : ∀ (l : List (Str × NameKind)) (acc : List (Str × Addr)), (∀ x, (x, NameKind.free) ∈ l → env.cells.lookup x = some (g x)) →
     (forIn l acc (clStep env) : Sem _) = pure (((l.filter fun p => p.2 == .free).map fun p => (p.1, g p.1)).reverse ++ acc) := by
   intro l
   induction l with
   | nil => intro acc _; rfl
   | cons q l ih =>
     intro acc hl
     obtain ⟨x, k⟩ := q
     rw [List.forIn_cons]
     by_cases hk : (k == .free) = true
     · have hk' : k = .free := by cases k <;> first | rfl | cases hk
       subst hk'
       have ec : cellOf env x = pure (g x) := by unfold cellOf; rw [hl x (.head _)]
       simp only [clStep, hk, if_true, ec, pure_bind]
       rw [ih _ fun y hy => hl y (.tail _ hy)]
       simp
     · simp only [Bool.not_eq_true] at hk
       simp only [clStep, hk, Bool.false_eq_true, if_false, pure_bind]
       rw [ih _ fun y hy => hl y (.tail _ hy)]
       simp [hk]
 have h2 : closureFor scope env = (forIn scope.names [] (clStep env) >>= pure) := rfl
 rw [h2, key scope.names [] h, pure_bind, List.append_nil]
theorem closure_lookup {names : List (Str × NameKind)} (nd : (names.map (·.1)).Nodup) (g : Str → Addr) {x : Str} {c : Addr} : (((names.filter fun p => p.2 == .free).map fun p => (p.1, g p.1)).reverse).lookup x = some c ↔ (x, NameKind.free) ∈ names ∧ c = g x := by
 constructor
 · intro e
   have h := PySem.mem_of_lookup e
   rw [List.mem_reverse, List.mem_map] at h
   obtain ⟨p, hp, q⟩ := h
   obtain ⟨h1, h2⟩ := List.mem_filter.mp hp
   cases q
   obtain ⟨x', k⟩ := p
   have : k = .free := by cases k <;> first | rfl | cases h2
   subst this
   exact ⟨h1, rfl⟩
 · rintro ⟨h, rfl⟩
   have hm : (x, g x) ∈ ((names.filter fun p => p.2 == .free).map fun p => (p.1, g p.1)).reverse := by
     rw [List.mem_reverse, List.mem_map]
     exact ⟨(x, .free), List.mem_filter.mpr ⟨h, rfl⟩, rfl⟩
   cases e : (((names.filter fun p => p.2 == .free).map fun p => (p.1, g p.1)).reverse).lookup x with
   | none =>
     rw [List.lookup_eq_none_iff] at e
     have := e _ hm
     simp at this
   | some d =>
     have h := PySem.mem_of_lookup e
     rw [List.mem_reverse, List.mem_map] at h
     obtain ⟨p, hp, q⟩ := h
     cases q; rfl
noncomputable def relab (scope cs : Scope) : Scope := { scope with names := scope.names.map fun (n, k) => if (k == .free && cs.kind == .function && cs.names.lookup n == some .cell) then (n, .cell) else (n, k) }
section
variable {G : Gd} {Γ : Fi} {mu : List Addr} {s₀ s : Shared} {σ : St} {ow : List Addr}
theorem store_loc {A : Around} {Q : Unit → Shared → Prop} {E} {v : V} {y : Value} (i : Nat) {x : Str} (R : Rp G Γ mu s₀ σ ow s) (hΓ : Γ.Ok G mu s₀.heap) (hx : Γ.cs.names[i]? = some (x, .local))
   (vy : VR s.heap ow v y) (hQ : ∀ s', Rp G Γ mu s₀ (σ.put i v) ow s' → Go Γ ow s ow s' → Heap.SameBut Γ.L s.heap s'.heap → Q () s') : wpAny (model PG G.w) A (storeName Γ.env x y) Q E s := by
 refine wg fun P' bk => ?_
 obtain ⟨m, hn, hm⟩ := R.m
 obtain ⟨oL, es, ep, e, hd, _⟩ := id hn
 refine bk ?_
 refine wpAny_storeName_local (hΓ.kind hx) hn (fun h' hn' hs => ?_) (by show (Γ.cs.kind == .class || (Γ.cs.kind == .module && Γ.L != mainGlobals)) = false; rw [hΓ.fn]; rfl)
 refine wg fun P' bk => ?_
 obtain ⟨oL', es', ep', e', hd', _⟩ := id hn'
 have hne : ∀ c v₀, s.heap.IsCell c v₀ → c ≠ Γ.L := fun c v₀ ⟨o, q, hq⟩ z => by rw [z, e] at q; cases q; rw [hd] at hq; cases hq
 refine bk ?_
 refine hQ _ (R.turn hΓ _ (σ.put i v) hs e (fun ⟨vs, n, q⟩ => by rw [hd] at q; cases q) R.L_off.2 (by intro vs q; rw [hd] at q; cases q) (.inl hΓ.L) ⟨_, hn', fun j z u a b => ?_⟩ (fun j z k' u a hk' b => ?_) (fun z c q => ?_) rfl rfl fun j a xs e1 e2 => ?_) (Go.turn hs (.inl rfl) e') hs
 · rcases put_get b with ⟨rfl, rfl⟩ | ⟨hj, b⟩
   · rw [hx] at a; cases a
     exact ⟨y, by simp, vy⟩
   · refine wg fun P' bk => ?_
     obtain ⟨w, ew, r⟩ := hm j z u a b
     refine bk ?_
     refine ⟨w, ?_, r⟩
     have : z ≠ x := fun q => hj (names_inj hΓ.nd (q ▸ a) hx)
     simp only [this, if_false]; exact ew
 · rcases put_get b with ⟨rfl, rfl⟩ | ⟨hj, b⟩
   · rw [hx] at a; cases a; rcases hk' with h | h <;> cases h
   · obtain ⟨c, w, q1, q2, r⟩ := R.c j z k' u a hk' b
     exact ⟨c, w, q1, q2.sameBut hs (hne _ _ q2), r⟩
 · obtain ⟨v₀, q2⟩ := R.cells z c q
   exact ⟨v₀, q2.sameBut hs (hne _ _ q2)⟩
 · obtain ⟨ys, n, q, p⟩ := R.own j a xs e1 e2
   exact ⟨ys, n, (hs.2 a (R.own_off (List.mem_of_getElem? e1)).2).trans q, p⟩
theorem Old.same {h h' h'' : Heap} (o : Old tb h h') {b : Addr} (hs : Heap.SameBut b h' h'') (hb : h.get? b = none) : Old tb h h'' := fun c x hn e => (hs.2 c fun z => by subst z; rw [hb] at e; cases e).trans (o c x hn e)
theorem Old.but {h h' h'' : Heap} (o : Old tb h h') {b : Addr} (hs : Heap.ExtBut b h' h'') (hb : h.get? b = none) : Old tb h h'' := fun c x hn e => hs c x (fun z => by subst z; rw [hb] at e; cases e) (o c x hn e)
end
noncomputable def compP (c : St → Option Bool) (f : St → Option V) (rest : List (Option V)) (own : List (List P)) (ky : Ky) : List P → List P → Option (List P)
 | [], acc => some acc
 | x :: xs, acc => match c ⟨none :: some (.p x) :: rest, own ++ [acc], ky⟩ with
   | some true => (match f ⟨none :: some (.p x) :: rest, own ++ [acc], ky⟩ with
     | some (.p y) => compP c f rest own ky xs (acc ++ [y])
     | _ => none)
   | some false => compP c f rest own ky xs acc
   | none => none
noncomputable def TS (rm : Nat) (cs : Scope) (ifs : List PySem.Expr) (c : St → Option Bool) : Prop :=
 ∀ (G : Gd) (Γ : Fi) (mu : List Addr) (s₀ : Shared) (σ : St) (ow : List Addr) (s : Shared) (b : Bool) (A : Around) (Q : Bool → Shared → Prop),
   G.Ok → Γ.Ok G mu s₀.heap → Γ.cs = cs → c σ = some b → Rp G Γ mu s₀ σ ow s → RmG rm Γ A →
   (∀ s', Rp G Γ mu s₀ σ ow s' → Old tb s.heap s'.heap → Q b s') →
   wpAny (model PG G.w) A (forIn ifs true fun c r => if r = true then do let ok ← isTrue c Γ.env (eval c Γ.env); pure (ForInStep.yield ok) else pure (ForInStep.yield r)) Q NoE s
theorem TS_nil {rm : Nat} {cs : Scope} : TS rm cs [] (cKB true) := fun G Γ mu s₀ σ ow s b A Q hG hΓ hc hf R hm hQ => by
 obtain rfl := sij hf
 exact wpAny_tests_nil (hQ _ R .refl)
theorem TS_one {rm : Nat} {cs : Scope} {e : PySem.Expr} {c : St → Option Bool} (h : CT rm cs e c) : TS rm cs [e] c := fun G Γ mu s₀ σ ow s b A Q hG hΓ hc hf R hm hQ =>
 wpAny_tests_one (h G Γ mu s₀ σ ow s b A Q hG hΓ hc hf R hm hQ)
noncomputable def blkOne (cs : Scope) (y : Str) : NameKind → Option Nat → Bool
 | .cell => fun o => o.any fun i => decide (cs.names[i]? = some (y, .cell))
 | .globalImplicit => Option.isNone
 | _ => fun zz => false
noncomputable def blkGo (cs : Scope) : List (Str × NameKind) → List (Option Nat) → Bool
 | [] => List.isEmpty
 | p :: r => fun os => match os with
   | [] => false
   | o :: os => blkOne cs p.1 p.2 o && blkGo cs r os
theorem blk_at {cs : Scope} : ∀ {l : List (Str × NameKind)} {os : List (Option Nat)} {j : Nat} {y : Str} {k : NameKind}, blkGo cs l os = true → l[j]? = some (y, k) → (k = .cell ∧ ∃ i, os[j]? = some (some i) ∧ cs.names[i]? = some (y, .cell)) ∨ (k = .globalImplicit ∧ os[j]? = some none) := by
 intro l
 induction l with
 | nil => intro os j y k _ h; simp at h
 | cons p l ih =>
   intro os j y k hb h
   obtain ⟨y', k'⟩ := p
   cases os with
   | nil => cases hb
   | cons o os =>
     have hb : (blkOne cs y' k' o && blkGo cs l os) = true := hb
     obtain ⟨h1, h2⟩ := Bool.and_eq_true_iff.mp hb
     cases j with
     | zero =>
       obtain ⟨rfl, rfl⟩ := Prod.mk.inj (sij h)
       cases k' <;> cases o <;> first | exact .inr ⟨rfl, rfl⟩ | exact .inl ⟨rfl, _, rfl, of_decide_eq_true h1⟩ | cases h1
     | succ j => exact ih (os := os) (j := j) h2 h
structure Blk (cs scope cs'' : Scope) (x : Str) (idxs : List (Option Nat)) : Prop where
 re : relab scope cs = cs''
 two : cs''.names.take 2 = [(Str.ofString ".0", .local), (x, .local)]
 go : blkGo cs (cs''.names.drop 2) idxs = true
 nd : (cs''.names.map (·.1)).Nodup
 nd' : (scope.names.map (·.1)).Nodup
 k : scope.kind = .function
 nocell : ∀ y ∈ scope.names, y.2 ≠ .cell
 hx : scope.names.lookup x = some .local
 mark : markOf cs'' = none
noncomputable def restOf (idxs : List (Option Nat)) (σ : St) : List (Option V) := idxs.map fun o => o.bind fun i => (σ.vals[i]?).join
section
variable {G : Gd} {Γ : Fi} {mu : List Addr} {s₀ : Shared} {σ : St} {ow : List Addr} {A : Around} {cs scope cs'' : Scope} {x : Str} {idxs : List (Option Nat)}
noncomputable def clOf (Γ : Fi) (scope : Scope) : List (Str × Addr) := ((scope.names.filter fun p => p.2 == .free).map fun p => (p.1, (Γ.cl.lookup p.1).getD 0)).reverse
noncomputable abbrev Fi.blk (Γ : Fi) (scope : Scope) (C : Addr) : Fi := ⟨Γ.cn, relab scope Γ.cs, C, Γ.fr, none, Γ.ccd, clOf Γ scope⟩
theorem Blk.name (B : Blk cs scope cs'' x idxs) {i : Nat} {y : Str} {k : NameKind} (h : cs''.names[i]? = some (y, k)) : (i < 2 ∧ k = .local) ∨ ∃ j, i = j + 2 ∧ ((k = .cell ∧ ∃ i', idxs[j]? = some (some i') ∧ cs.names[i']? = some (y, .cell)) ∨ (k = .globalImplicit ∧ idxs[j]? = some none)) := by
 by_cases hi : i < 2
 · refine .inl ⟨hi, ?_⟩
   have h2 : (cs''.names.take 2)[i]? = some (y, k) := by rw [List.getElem?_take, if_pos hi]; exact h
   rw [B.two] at h2
   match i, hi with
   | 0, _ => simp at h2; exact h2.2.symm
   | 1, _ => simp at h2; exact h2.2.symm
 · refine .inr ⟨i - 2, by omega, blk_at B.go (j := i - 2) ?_⟩
   rw [List.getElem?_drop, show 2 + (i - 2) = i by omega]
   exact h
theorem Blk.free (B : Blk cs scope cs'' x idxs) (hk : cs.kind = .function) (hnd : (cs.names.map (·.1)).Nodup) {y : Str} (h : (y, NameKind.free) ∈ scope.names) : ∃ i : Nat, cs.names[i]? = some (y, NameKind.cell) := by
 obtain ⟨n, hn, e⟩ := List.getElem_of_mem h
 have h1 : cs''.names[n]? = some (if (NameKind.free == .free && cs.kind == .function && cs.names.lookup y == some .cell) then (y, NameKind.cell) else (y, NameKind.free)) := by
   rw [← B.re]
   simp only [relab, List.getElem?_map]
   rw [List.getElem?_eq_getElem hn, e]
   rfl
 by_cases hc : (NameKind.free == .free && cs.kind == .function && cs.names.lookup y == some .cell) = true
 · rw [if_pos hc] at h1
   rcases B.name h1 with ⟨_, q⟩ | ⟨j, rfl, ⟨_, i', _, q⟩ | ⟨q, _⟩⟩
   · cases q
   · exact ⟨i', q⟩
   · cases q
 · rw [if_neg hc] at h1
   rcases B.name h1 with ⟨_, q⟩ | ⟨j, rfl, ⟨q, _⟩ | ⟨q, _⟩⟩ <;> cases q
theorem Blk.cells (B : Blk cs scope cs'' x idxs) {y : Str} (h : cs''.names.lookup y = some .cell) : (y, NameKind.free) ∈ scope.names := by
 have h2 := PySem.mem_of_lookup h
 rw [← B.re] at h2
 simp only [relab, List.mem_map] at h2
 obtain ⟨⟨n, k⟩, hm, e⟩ := h2
 simp only at e
 split at e
 · rename_i hc
   cases e
   simp only [Bool.and_eq_true, beq_iff_eq] at hc
   rw [← hc.1.1]; exact hm
 · cases e
   exact absurd rfl (B.nocell _ hm)
theorem blk_frees {s : Shared} (B : Blk cs scope cs'' x idxs) (hΓ : Γ.Ok G mu s₀.heap) (hc : Γ.cs = cs) (R : Rp G Γ mu s₀ σ ow s) : ∀ y, (y, NameKind.free) ∈ scope.names → Γ.cl.lookup y = some ((Γ.cl.lookup y).getD 0) ∧ ∃ v₀, s.heap.IsCell ((Γ.cl.lookup y).getD 0) v₀ := fun y hy => by
 subst hc
 obtain ⟨i, hi⟩ := B.free hΓ.fn hΓ.nd hy
 obtain ⟨c, hc⟩ := hΓ.cc y (hΓ.kd hi)
 rw [hc]
 exact ⟨rfl, R.cells y c hc⟩
theorem blk_clos {s : Shared} (B : Blk cs scope cs'' x idxs) (hΓ : Γ.Ok G mu s₀.heap) (hc : Γ.cs = cs) (R : Rp G Γ mu s₀ σ ow s) : closureFor scope Γ.env = pure (clOf Γ scope) :=
 closureFor_eq (fun y => (Γ.cl.lookup y).getD 0) fun y hy => (blk_frees B hΓ hc R y hy).1
theorem blk_start {s : Shared} {C : Addr} (B : Blk cs scope cs'' x idxs) (hΓ : Γ.Ok G mu s₀.heap) (hc : Γ.cs = cs) (R : Rp G Γ mu s₀ σ ow s) (hC : s₀.heap.objs.size ≤ C) (hns : s.heap.Ns C fun zz => none) :
   (Γ.blk scope C).Ok G mu s₀.heap ∧ Rp G (Γ.blk scope C) mu s₀ ⟨none :: none :: restOf idxs σ, σ.own, σ.ky⟩ ow s := by
 have hf := blk_frees B hΓ hc R
 subst hc
 obtain rfl := B.re
 let g : Str → Addr := fun y => (Γ.cl.lookup y).getD 0
 have hg : ∀ y, (y, NameKind.free) ∈ scope.names → Γ.cl.lookup y = some (g y) := fun y hy => (hf y hy).1
 refine ⟨⟨B.k, B.nd, hC, fun y c h1 h2 => ?_, fun y h1 => ?_, fun y z c h1 h2 => ?_, hΓ.g0, hΓ.mu, fun c q e => ?_⟩, ⟨R.sh, R.ok, R.old, ⟨_, hns, fun i y v e1 e2 => ?_⟩, fun i y k v e1 e2 e3 => ?_, fun y c e => ?_, R.own, R.len, R.nd, R.owf, R.ky, R.kl⟩⟩
 · obtain ⟨hy, rfl⟩ := (closure_lookup B.nd' g).mp h2
   obtain ⟨i, hi⟩ := B.free hΓ.fn hΓ.nd hy
   exact hΓ.cf y _ (hΓ.kd hi) (hg y hy)
 · exact ⟨g y, (closure_lookup B.nd' g).mpr ⟨B.cells h1, rfl⟩⟩
 · obtain ⟨hy, rfl⟩ := (closure_lookup B.nd' g).mp h1
   obtain ⟨hz, e⟩ := (closure_lookup B.nd' g).mp h2
   exact hΓ.cd y z _ (hg y hy) (e ▸ hg z hz)
 · rw [show markOf (Γ.blk scope C).cs = none from B.mark] at e; cases e
 · rcases B.name (i := i) e1 with ⟨hi, _⟩ | ⟨j, rfl, ⟨q, _⟩ | ⟨q, _⟩⟩
   · match i, hi with
     | 0, _ => cases e2
     | 1, _ => cases e2
   · cases q
   · cases q
 · rcases B.name (i := i) e1 with ⟨hi, rfl⟩ | ⟨j, rfl, ⟨rfl, i', q1, q2⟩ | ⟨rfl, _⟩⟩
   · rcases e2 with h | h <;> cases h
   · have e4 : (restOf idxs σ)[j]? = some (some v) := e3
     simp only [restOf, List.getElem?_map, q1, Option.map_some, Option.some.injEq, Option.bind_some] at e4
     obtain ⟨c, w, p1, p2, p3⟩ := R.c i' y .cell v q2 (.inl rfl) (join_some e4)
     have hy := B.cells (y := y) (lookup_of_nth B.nd e1)
     exact ⟨g y, w, (closure_lookup B.nd' g).mpr ⟨hy, rfl⟩, by rw [hg y hy] at p1; obtain rfl := sij p1; exact p2, p3⟩
   · rcases e2 with h | h <;> cases h
 · obtain ⟨hy, rfl⟩ := (closure_lookup B.nd' g).mp e
   exact (hf y hy).2
end
inductive BI (G : Gd) (Γ' : Fi) (mu : List Addr) (s₀ s₁ s₂ : Shared) (σ : St) (ow' : List Addr) (idxs : List (Option Nat)) (there : Heap → List Addr → List P → Prop) (c : St → Option Bool) (f : St → Option V) (zs : List P) (k : Nat) (s' : Shared) : Prop
 | mk (xs' acc : List P) (z : Option V) (h0 : k = xs'.length) (h1 : there s'.heap ow' xs') (h2 : compP c f (restOf idxs σ) σ.own σ.ky xs' acc = some zs) (h3 : acc.length + xs'.length ≤ 1000) (h4 : Rp G Γ' mu s₀ ⟨none :: z :: restOf idxs σ, σ.own ++ [acc], σ.ky⟩ ow' s') (h5 : Old tb s₁.heap s'.heap) (h : Heap) (tk : Nat) (h6 : s' = { s₂ with heap := h, toks := tk }) : BI G Γ' mu s₀ s₁ s₂ σ ow' idxs there c f zs k s'
section
variable {G : Gd} {Γ : Fi} {mu : List Addr} {s₀ s₁ s₂ : Shared} {σ : St} {ow : List Addr} {A : Around} {cs scope cs'' : Scope} {x : Str} {idxs : List (Option Nat)} {rm : Nat}
theorem block_run {elt iter : PySem.Expr} {ifs : List PySem.Expr} {px pos : Pos} {c : St → Option Bool} {f : St → Option V} {xs zs : List P} {I : Addr} {there : Heap → List Addr → List P → Prop} {RR : Value → Addr → Result → Shared → Prop} {E : Value → Shared → Prop}
   (B : Blk cs scope cs'' x idxs) (hG : G.Ok) (hΓ : Γ.Ok G mu s₀.heap) (hc : Γ.cs = cs) (hm : RmG rm Γ A) (R₂ : Rp G Γ mu s₀ σ ow s₂) (T₁ : TabsOk s₁.heap) (o₁ : Old tb s₁.heap s₂.heap) (hI : s₁.heap.get? I = none) (hI₀ : s₀.heap.objs.size ≤ I)
   (hX : ∀ Γ' : Fi, Src G Γ' mu s₀ A I (fun zz => True) there) (hself : ∀ (s' : Shared) ow' xs' (E : Value → Shared → Prop) (Q : Value → Shared → Prop), there s'.heap ow' xs' → Q (.ref I) s' → wpAny (model PG G.w) A (pyIter (.ref I)) Q E s') (h0 : there s₂.heap ow xs)
   (ht : TS rm cs'' ifs c) (hE : ES rm cs'' elt f) (hp : compP c f (restOf idxs σ) σ.own σ.ky xs [] = some zs) (hl : xs.length ≤ 1000)
   (hRR : ∀ D C h' tk m ys n, s₁.heap.get? D = none → s₁.heap.get? C = none → s₀.heap.objs.size ≤ D → s₀.heap.objs.size ≤ C → D ∉ ow → D ≠ C → G.at h' → Old tb s₁.heap h' → h'.get? D = some (W.listOf (List.toArray ys) n) → PVs (fun b => b ∉ ow ∧ b ≠ D) h' zs ys → h'.Ns C m → RR (.ref D) C (.ok .next) { s₂ with heap := h', toks := tk }) :
   wpAny (model PG G.w) A (newList []) (fun acc s₃ => wpAny (model PG G.w) A (newFunctionEnv scope Γ.env.globals (clOf Γ scope) [] Γ.env.qual none .none (some Γ.env)) (fun cenv s₄ =>
     codeAny (model PG G.w) A (.compStart (.ListComp elt [⟨.Name x px, iter, ifs, 0⟩] scope pos) 0 (.ref I) acc { cenv with scope := relabel scope Γ.env }) (RR acc cenv.locals) s₄) E s₃) E s₂ := by
 have nb : ∀ {a}, s₂.heap.get? a = none → s₁.heap.get? a = none := fun e => none_back o₁ R₂.ok.tabs e
 refine wpAny_newObj_type (wpAny_newFunctionEnv (fun y hy => B.nocell y hy) (by intro y hy; simp at hy) (fun h₁ hns₁ hsb₁ => ?_) B.k)
 generalize hD : s₂.heap.objs.size = D at hns₁ hsb₁ ⊢
 have D2 : s₂.heap.get? D = none := hD ▸ get_size _
 have gD : (s₂.heap.push { cls := .type "list", dict := none, data := .seq ([] : List Value).toArray }).get? D = some (W.listOf (List.toArray []) 0) := hD ▸ Heap.get?_push_size _ rfl
 have N : New ow s₀ s₂ { s₂ with heap := s₂.heap.push { cls := .type "list", dict := none, data := .seq ([] : List Value).toArray } } D [] :=
   ⟨D2, hD ▸ R₂.above hΓ, hD ▸ R₂.fresh, [], 0, gD, rfl⟩
 obtain ⟨R₃, g₃⟩ := R₂.add (R₂.step s₂.toks (.push _) (R₂.ok.push _)) N (.push _)
 generalize hH : s₂.heap.push { cls := .type "list", dict := none, data := .seq ([] : List Value).toArray } = H at hns₁ hsb₁ gD N R₃ g₃ ⊢
 have hC : H.objs.size = D + 1 := by rw [← hH, Heap.size_push, hD]
 have C2 : H.get? H.objs.size = none := get_size _
 have kp : ∀ b o, H.get? b = some o → h₁.get? b = some o := fun b o e => hsb₁.extBut b o (Nat.ne_of_lt (Heap.lt_size e)) (Heap.get?_push_of_some _ e)
 have ok₁ : G.at h₁ := ⟨fun b o e => kp b o (R₃.ok.stay b o e), fun q hq => let ⟨ps, e, t, c⟩ := R₃.ok.tabs q hq; ⟨ps, kp _ _ e, t, fun pos cv hc => (c pos cv hc).keeps kp⟩⟩
 have R₄ := R₃.step s₂.toks (.of kp) ok₁
 have o12 : Old tb s₁.heap h₁ := (o₁.trans (hH ▸ Old.push _)).trans (.of kp)
 have C1 : s₁.heap.get? H.objs.size = none := nb (by
   cases e : s₂.heap.get? H.objs.size with
   | none => rfl
   | some o => exact absurd (Heap.lt_size e) (Nat.not_lt.mpr (by rw [hD, hC]; exact Nat.le_succ _)))
 have D1 : s₁.heap.get? D = none := nb D2
 have hCs : s₀.heap.objs.size ≤ H.objs.size := by rw [hC]; exact Nat.le_trans (hD ▸ R₂.above hΓ) (Nat.le_succ _)
 obtain ⟨hΓ', R'⟩ := blk_start (C := H.objs.size) B hΓ hc R₄ hCs hns₁
 have hre : relab scope Γ.cs = cs'' := by rw [hc]; exact B.re
 have hm₂ : RmG rm (Γ.blk scope H.objs.size) A := .of hm.toRm (by rw [show markOf (Γ.blk scope H.objs.size).cs = none from (congrArg markOf hre).trans B.mark]; nofun)
 have hj : ow.length = σ.own.length := R₂.len
 have th₁ : there h₁ (ow ++ [D]) xs := (hX Γ).go (s₁ := { s₂ with heap := H, toks := s₂.toks }) (s₂ := { s₂ with heap := h₁, toks := s₂.toks }) R₃ (Go.of_old (G := G) (.of kp) ok₁) ((hX Γ).go (s₂ := { s₂ with heap := H, toks := s₂.toks }) R₂ g₃ h0)
 have hx0 : (relab scope Γ.cs).names[1]? = some (x, .local) := by
   have h2 : (cs''.names.take 2)[1]? = some (x, .local) := by rw [B.two]; rfl
   rw [List.getElem?_take, if_pos (by decide)] at h2
   rw [hre]; exact h2
 have loop : ∀ s₃ : Shared, s₃ = { s₂ with heap := h₁, toks := s₂.toks + ([] : List (Str × Value)).length } →
     codeAny (model PG G.w) A (.compLoop (.ListComp elt [⟨.Name x px, iter, ifs, 0⟩] scope pos) 0 (.ref I) (.ref D) (Γ.blk scope H.objs.size).env) (RR (.ref D) H.objs.size) s₃ := by
   rintro s₃ rfl
   refine codeAny_compLoop_tests (BI G (Γ.blk scope H.objs.size) mu s₀ s₁ s₂ σ (ow ++ [D]) idxs there c f zs) ?_ xs.length
     ⟨xs, [], none, rfl, th₁, hp, by simpa using hl, R', o12, _, _, rfl⟩
   rintro k s' ⟨xs', acc, z, rfl, ht', hp', hl', Rc, oc, hs', tk', rfl⟩
   obtain ⟨ob, hob, S⟩ := (hX (Γ.blk scope H.objs.size)).obj ht'
   cases xs' with
   | nil =>
     cases hp'
     refine wpAny_mono ((hX (Γ.blk scope H.objs.size)).stop Rc trivial ht' fun h' tk he => ?_) (fun zz zz h => h) fun zz zz h => h.elim
     have Re := Rc.ext hΓ' tk he hob S hI₀
     obtain ⟨ys, n, e, pv⟩ := Re.own ow.length D zs (by simp) (by rw [hj]; simp)
     obtain ⟨m, hns, _⟩ := Re.m
     exact hRR D H.objs.size h' tk m ys n D1 C1 N.above hCs N.off (by rw [hC]; exact Nat.ne_of_lt (Nat.lt_succ_self _)) Re.ok (oc.but he hI) e (pv.mono (fun b o e zz zz => e) fun b o zz k => ⟨fun h => k (List.mem_append_left _ h), fun h => k (List.mem_append_right _ (by simp [h]))⟩) hns
   | cons y ys =>
     refine wpAny_mono ((hX (Γ.blk scope H.objs.size)).next Rc trivial ht' fun yv h' tk py he ht'' => ?_) (fun zz zz h => h) fun zz zz h => h.elim
     have Re := Rc.ext hΓ' tk he hob S hI₀
     have py' : VR h' (ow ++ [D]) (.p y) yv := PV.mono (fun b o e ⟨vs, n, d⟩ _ => he b o (fun z => by subst z; rw [hob] at e; obtain rfl := sij e; exact S.seq d) e) (fun zz zz zz k => k) py
     refine wpAny_assign_Name (store_loc 1 (σ := ⟨none :: z :: restOf idxs σ, σ.own ++ [acc], σ.ky⟩) Re hΓ' hx0 py' fun s₅ R₅ g₅ sb₅ => ?_)
     have o₅ : Old tb s₁.heap s₅.heap := (oc.but he hI).same sb₅ C1
     have t₅ := (hX (Γ.blk scope H.objs.size)).go Re g₅ ht''
     have R₅' : Rp G (Γ.blk scope H.objs.size) mu s₀ ⟨none :: some (.p y) :: restOf idxs σ, σ.own ++ [acc], σ.ky⟩ (ow ++ [D]) s₅ := R₅
     have sh₅ : ∃ h tk, s₅ = { s₂ with heap := h, toks := tk } := by
       obtain ⟨ha, ta, ea⟩ := R₅'.sh
       obtain ⟨hb, tb', eb⟩ := R₂.sh
       exact ⟨ha, ta, by rw [ea, eb]⟩
     cases hcv : c ⟨none :: some (.p y) :: restOf idxs σ, σ.own ++ [acc], σ.ky⟩ with
     | none => simp only [compP, hcv] at hp'; cases hp'
     | some b =>
       refine wpAny_mono (ht G (Γ.blk scope H.objs.size) mu s₀ _ _ s₅ b A (fun b' s₆ => _) hG hΓ' hre hcv R₅' hm₂ fun s₆ R₆ o₆ => ?_) (fun zz zz h => h) fun zz zz h => h.elim
       have t₆ := (hX (Γ.blk scope H.objs.size)).go R₅' (Go.of_old o₆ R₆.ok) t₅
       cases b with
       | false =>
         simp only [compP, hcv] at hp'
         simp only [Bool.false_eq_true, if_false]
         obtain ⟨ha, ta, ea⟩ := R₆.sh
         obtain ⟨hb, tb', eb⟩ := R₂.sh
         exact ⟨ys.length, Nat.lt_succ_self _, ys, acc, some (.p y), rfl, t₆, hp', by simp at hl'; exact n1 ‹_›, R₆, o₅.trans o₆, ha, ta, by rw [ea, eb]⟩
       | true =>
         simp only [compP, hcv] at hp'
         simp only [if_true]
         cases hfv : f ⟨none :: some (.p y) :: restOf idxs σ, σ.own ++ [acc], σ.ky⟩ with
         | none => rw [hfv] at hp'; cases hp'
         | some v =>
           rw [hfv] at hp'
           cases v with
           | own i => cases hp'
           | p u =>
             simp only at hp'
             refine wpAny_mono (hE G (Γ.blk scope H.objs.size) mu s₀ _ _ s₆ (.p u) A (fun v' s₇ => _) hG hΓ' hre hfv R₆ hm₂ fun uv s₇ vu R₇ o₇ => ?_) (fun zz zz h => h) fun zz zz h => h.elim
             have t₇ := (hX (Γ.blk scope H.objs.size)).go R₆ (Go.of_old o₇ R₇.ok) t₆
             obtain ⟨us, n, e, pv⟩ := R₇.own ow.length D acc (by simp) (by show (σ.own ++ [acc])[ow.length]? = _; rw [hj]; simp)
             refine append_at e (fun h₈ sb₈ e₈ => ?_) (by rw [sizeLine_eq]; have := pv.len; simp at hl' ⊢; lia)
             obtain ⟨R₈, g₈⟩ := R₇.mut hΓ' (i := ow.length) (xs := acc ++ [u]) (ys := us ++ [uv]) (n := n + 1) s₇.toks (by simp) sb₈ (by rw [e₈]; simp) (pv.append ⟨uv, [], rfl, vu, rfl⟩)
             have t₈ := (hX (Γ.blk scope H.objs.size)).go R₇ g₈ t₇
             have es : (St.set ⟨none :: some (.p y) :: restOf idxs σ, σ.own ++ [acc], σ.ky⟩ ow.length (acc ++ [u])) = ⟨none :: some (.p y) :: restOf idxs σ, σ.own ++ [acc ++ [u]], σ.ky⟩ := by
               simp only [St.set]
               rw [hj, List.set_append_right _ _ (Nat.le_refl _)]
               simp
             rw [es] at R₈
             obtain ⟨ha, ta, ea⟩ := R₈.sh
             obtain ⟨hb, tb', eb⟩ := R₂.sh
             exact ⟨ys.length, Nat.lt_succ_self _, ys, acc ++ [u], some (.p y), rfl, t₈, hp', by simp at hl' ⊢; lia, R₈, (((o₅.trans o₆).trans o₇).same sb₈ D1), ha, ta, by
               have h1 : s₇ = _ := rfl
               rw [eb]; exact ea⟩
 have hfin := codeAny_compStart_list (loop _ rfl) (hself _ (ow ++ [D]) xs _ _ th₁ (loop _ rfl))
 exact hfin
end
structure IterFacts (G : Gd) (Γ : Fi) (mu : List Addr) (s₀ : Shared) (σ : St) (ow : List Addr) (A : Around) (s₁ s₂ : Shared) (I : Addr) (there : Heap → List Addr → List P → Prop) (xs : List P) : Prop where
 R₁ : Rp G Γ mu s₀ σ ow s₁
 R₂ : Rp G Γ mu s₀ σ ow s₂
 old : Old tb s₁.heap s₂.heap
 nI : s₁.heap.get? I = none
 I₀ : s₀.heap.objs.size ≤ I
 X : ∀ Γ' : Fi, Src G Γ' mu s₀ A I (fun _ => True) there
 self : ∀ (s' : Shared) ow' xs' (E : Value → Shared → Prop) (Q : Value → Shared → Prop), there s'.heap ow' xs' → Q (.ref I) s' → wpAny (model PG G.w) A (pyIter (.ref I)) Q E s'
 at0 : there s₂.heap ow xs
noncomputable def IS (rm : Nat) (cs : Scope) (iter : PySem.Expr) (src : St → Option (List P)) : Prop :=
 ∀ (G : Gd) (Γ : Fi) (mu : List Addr) (s₀ : Shared) (σ : St) (ow : List Addr) (s : Shared) (xs : List P) (A : Around) (Q : Value → Shared → Prop), G.Ok → Γ.Ok G mu s₀.heap → Γ.cs = cs → src σ = some xs → Rp G Γ mu s₀ σ ow s → RmG rm Γ A →
   (∀ s₁ s₂ I there, Old tb s.heap s₁.heap → IterFacts G Γ mu s₀ σ ow A s₁ s₂ I there xs → Q (.ref I) s₂) →
   wpAny (model PG G.w) A (eval iter Γ.env) (fun xv s₁ => wpAny (model PG G.w) A (pyIter xv) Q NoE s₁) NoE s
noncomputable def srcL (f : St → Option V) : St → Option (List P) := fun σ => match f σ with
 | some (.p (.lst xs)) => some xs
 | _ => none
noncomputable def srcR (f : St → Option V) : St → Option (List P) := fun σ => match f σ with
 | some (.p (.int n)) => if 0 ≤ n ∧ n ≤ 1000 then some (rangeP 0 n.toNat) else none
 | _ => none
section
variable {rm : Nat} {cs : Scope}
theorem IS_list {iter : PySem.Expr} {f : St → Option V} (he : ES rm cs iter f) : IS rm cs iter (srcL f) := fun G Γ mu s₀ σ ow s xs A Q hG hΓ hc hf R hm hQ => by
 unfold srcL at hf
 split at hf
 · rename_i zs h1
   cases hf
   refine he G Γ mu s₀ σ ow s _ A _ hG hΓ hc h1 R hm fun y s₁ vy R₁ o₁ => ?_
   simp only [VR, PV] at vy
   obtain ⟨l, ys, rfl, hoff, hq, p⟩ := vy
   with_reducible refine wpAny_pyIter_list hq ?_
   refine hQ s₁ _ s₁.heap.objs.size (fun h ow xs' => ∃ k, h.IsListIter s₁.heap.objs.size l k ∧ Still h ow l ys xs ∧ xs' = xs.drop k) o₁ ⟨R₁, R₁.step s₁.toks (.push _) (R₁.ok.push _), .push _, get_size _, R₁.above hΓ, fun Γ' => src_list hm.hd, fun s' ow' xs' E Q ⟨k, x, _⟩ h => wpAny_pyIter_listiter x h, ⟨0, ⟨_, Heap.get?_push_size _ rfl, rfl, rfl⟩, ⟨hq.push _, hoff, p.push⟩, rfl⟩⟩
 · cases hf
theorem IS_range (i : Nat) {e : PySem.Expr} {p rpos : Pos} {f : St → Option V} (B : Bn (Str.ofString "range") (.type "range")) (hx : cs.names[i]? = some (Str.ofString "range", .globalImplicit)) (he : ES rm cs e f)
   (hn : ∀ env, starEach [e] env = [(false, eval e env)]) : IS rm cs (.Call (.Name (Str.ofString "range") p) [e] [] rpos) (srcR f) := fun G Γ mu s₀ σ ow s xs A Q hG hΓ hc hf R hm hQ => by
 unfold srcR at hf
 split at hf
 · rename_i n h1
   split at hf
   · rename_i hl
     obtain rfl := sij hf
     with_reducible refine wpAny_Call_NameR ?_
     refine name_B i B hG hΓ (hc ▸ hx) R.ok ?_
     with_reducible refine PyProof.Rows.callWith_type1 ?_ (hn _) rfl
     with_reducible refine spliced_more ?_ (hn _)
     refine he G Γ mu s₀ σ ow s _ A _ hG hΓ hc h1 R hm fun y s₁ vy R₁ o₁ => ?_
     obtain ⟨t', rfl⟩ := vy
     with_reducible refine spliced_none ?_
     with_reducible refine call_range_1 ?_
     have R₂ := R₁.step (s₁.toks + 1 + 1) (Old.push { cls := .type "range", data := .fields #[.int 0 s₁.toks, .int n t', .int 1 (s₁.toks + 1)] }) (R₁.ok.push _)
     have hsz : Builtin.Range.rangeSize 0 n 1 = (n.toNat : Int) := by rw [rangeSize_one]; split <;> lia
     refine wpAny_pyIter_range (IsRange.new _ _ _ _ _ _ _) (small_one (by exact r6) (by exact r6) (by lia) (by lia)) ?_
     refine hQ _ _ _ (fun h ow xs' => ∃ (a : Int) (k : Nat), IsRangeIter h (s₁.heap.push { cls := .type "range", data := .fields #[.int 0 s₁.toks, .int n t', .int 1 (s₁.toks + 1)] }).objs.size a (k : Int) 1 ∧ xs' = rangeP a k) (o₁.trans (.push _)) ⟨R₂, R₂.step _ (.push _) (R₂.ok.push _), .push _, get_size _, R₂.above hΓ, fun Γ' => src_range hm.hd, fun s' ow' xs' E Q ⟨a, k, x, _⟩ h => wpAny_pyIter_rangeiter x h, ⟨0, n.toNat, ?_, rfl⟩⟩
     rw [← hsz]
     exact Heap.get?_push_size _ rfl
   · cases hf
 · cases hf
end
section
variable {G : Gd} {Γ : Fi} {mu : List Addr} {s₀ s : Shared} {σ : St} {ow : List Addr}
theorem Rp.drop (R : Rp G Γ mu s₀ σ ow s) (hΓ : Γ.Ok G mu s₀.heap) {C : Addr} {m : Str → Option Value} {h' : Heap} (tk : Nat) (hn : s.heap.Ns C m) (hs : Heap.SameBut C s.heap h') (hL : Γ.L ≠ C) (hC : s₀.heap.objs.size ≤ C) : Rp G Γ mu s₀ σ ow { s with heap := h', toks := tk } := by
 refine wg fun P' bk => ?_
 obtain ⟨oC, es, ep, e, hd, _⟩ := id hn
 have nc : ∀ {c v}, s.heap.IsCell c v → c ≠ C := fun ⟨o, q, hq⟩ z => by rw [z, e] at q; cases q; rw [hd] at hq; cases hq
 have hno : C ∉ ow := fun h => by
   obtain ⟨ys, n, q⟩ := R.own_obj h
   rw [e] at q; cases q; cases hd
 refine bk ?_
 refine R.turn hΓ tk σ hs e (fun ⟨vs, n, q⟩ => by rw [hd] at q; cases q) (fun q => by obtain ⟨vs, z⟩ := tab_data R.ok.tabs q e; rw [hd] at z; cases z) (by intro vs q; rw [hd] at q; cases q) (.inl hC) ?_ (fun j z k' u a hk' b => ?_) (fun z c q => ?_) rfl rfl fun j a xs e1 e2 => ?_
 · obtain ⟨m', hn', hm'⟩ := R.m
   exact ⟨m', hn'.sameBut hs hL, hm'⟩
 · obtain ⟨d, w, q1, q2, r⟩ := R.c j z k' u a hk' b
   exact ⟨d, w, q1, q2.sameBut hs (nc q2), r⟩
 · obtain ⟨v, q2⟩ := R.cells z c q
   exact ⟨v, q2.sameBut hs (nc q2)⟩
 · obtain ⟨ys, n, q, p⟩ := R.own j a xs e1 e2
   exact ⟨ys, n, (hs.2 a fun z => hno (z ▸ List.mem_of_getElem? e1)).trans q, p⟩
theorem Go.drop {s₁ : Shared} {ow' : List Addr} (g : Go Γ ow s ow' s₁) {C : Addr} {h' : Heap} {tk : Nat} {m : Str → Option Value} (hs : Heap.SameBut C s₁.heap h') (hC : s.heap.get? C = none) : Go Γ ow s ow' { s₁ with heap := h', toks := tk } :=
 ⟨fun b o hf e => (hs.2 b fun z => by subst z; rw [hC] at e; cases e).trans (g.ext b o hf e), fun b e => by
   by_cases q : b = C
   · rw [q]; exact hC
   · exact g.live b ((hs.2 b q).symm.trans e), g.pre, g.fresh⟩
end
noncomputable def nComp (idxs : List (Option Nat)) (c : St → Option Bool) (f : St → Option V) (src : St → Option (List P)) : St → Option (List P) := fun σ => match src σ with
 | some xs => if xs.length ≤ 1000 then compP c f (restOf idxs σ) σ.own σ.ky xs [] else none
 | none => none
section
variable {rm : Nat} {cs scope cs'' : Scope} {x : Str} {idxs : List (Option Nat)}
theorem blk_names (B : Blk cs scope cs'' x idxs) : ∀ y ∈ scope.names, y.2 = .local → scope.names.lookup y.1 = some .local := fun y hy hl => by
 obtain ⟨n, hn, e⟩ := List.getElem_of_mem hy
 refine lookup_of_nth (i := n) B.nd' ?_
 rw [List.getElem?_eq_getElem hn, e, ← hl]
theorem NS_comp {elt iter : PySem.Expr} {ifs : List PySem.Expr} {px pos : Pos} {c : St → Option Bool} {f : St → Option V} {src : St → Option (List P)} (B : Blk cs scope cs'' x idxs) (hi : IS rm cs iter src) (ht : TS rm cs'' ifs c) (hE : ES rm cs'' elt f)
   (hs : ∀ env x, foldedSetIterable iter env x = pure x) : NS rm cs (.ListComp elt [⟨.Name x px, iter, ifs, 0⟩] scope pos) (nComp idxs c f src) := fun G Γ mu s₀ σ ow s zs A Q hG hΓ hc hf R hm hQ => by
 unfold nComp at hf
 split at hf
 · rename_i xs hx
   split at hf
   · rename_i hl
     rw [eval_ListComp]
     refine wpAny_comprehension_free (use := none) rfl (hs _) (blk_clos B hΓ hc R) B.k (blk_names B) ?_
     refine wpAny_mono (hi G Γ mu s₀ σ ow s xs A _ hG hΓ hc hx R hm fun s₁ s₂ I there o₁ F => ?_) (fun zz zz h => h) fun zz zz h => h
     refine block_run B hG hΓ hc hm F.R₂ F.R₁.ok.tabs F.old F.nI F.I₀ F.X F.self F.at0 ht hE hf hl fun D C h' tk m ys n hD hC hDs hCs₀ hDo hDC ok o e pv hns => ?_
     refine ⟨m, hns, fun h'' hsb => ?_⟩
     have hCs : s.heap.get? C = none := none_back o₁ F.R₁.ok.tabs hC
     refine wg fun P' bk => ?_
     obtain ⟨oC, es, ep, eC, hdC, _⟩ := id hns
     have ok'' : G.at h'' := ⟨fun b ob q => (hsb.2 b fun z => by subst z; have := F.R₁.ok.stay _ _ q; rw [hC] at this; cases this).trans (ok.stay b ob q), fun q hq => by
       obtain ⟨ps, e1, t, cc⟩ := ok.tabs q hq
       refine ⟨ps, (hsb.2 _ fun z => ?_).trans e1, t, fun pos cv hc => ?_⟩
       · rw [z, eC] at e1; cases e1; cases hdC
       · obtain ⟨c₁, o₂, vs, tt, f1, f2, f3, f4⟩ := cc pos cv hc
         exact ⟨c₁, o₂, vs, tt, f1, (hsb.2 _ fun z => by rw [z, eC] at f2; cases f2; rw [hdC] at f3; cases f3).trans f2, f3, f4⟩⟩
     have o' : Old tb s₁.heap h'' := o.same hsb hC
     have sh : ({ s₂ with heap := h'', toks := tk } : Shared) = { s₁ with heap := h'', toks := tk } := by
       obtain ⟨ha, ta, ea⟩ := F.R₁.sh
       obtain ⟨hb, tb', eb⟩ := F.R₂.sh
       rw [ea, eb]
     refine bk ?_
     show Q (.ref D) { s₂ with heap := h'', toks := tk }
     rw [sh]
     refine hQ D _ ⟨none_back o₁ F.R₁.ok.tabs hD, hDs, hDo, ys, n, (hsb.2 D hDC).trans e, pv.mono (fun b ob q ⟨vs, k, hd⟩ _ => (hsb.2 b fun z => by rw [z, eC] at q; cases q; rw [hdC] at hd; cases hd).trans q) fun zz zz zz k => k⟩ (F.R₁.step tk o' ok'') (o₁.trans o')
   · cases hf
 · cases hf
theorem S_comp (i : Nat) {y : Str} {py : Pos} {elt iter : PySem.Expr} {ifs : List PySem.Expr} {px pos spos : Pos} {c : St → Option Bool} {f : St → Option V} {src : St → Option (List P)} (hy : cs.names[i]? = some (y, .local)) (B : Blk cs scope cs'' x idxs) (hi : IS rm cs iter src) (ht : TS rm cs'' ifs c) (hE : ES rm cs'' elt f)
   (hs : ∀ env x, foldedSetIterable iter env x = pure x) (hsw : ∀ env : Env, env.scope = cs → swapsWith (.ListComp elt [⟨.Name x px, iter, ifs, 0⟩] scope pos) (some (.Name y py)) spos.line env = pure true) :
   S1 rm cs (.Assign [.Name y py] (.ListComp elt [⟨.Name x px, iter, ifs, 0⟩] scope pos) spos) (wSet i (cFz (nComp idxs c f src))) := fun G Γ mu s₀ σ ow s A Po Q hG hΓ hc hW R hm hQ => by
 refine wg fun P' bk => ?_
 obtain ⟨v, hv, hPo⟩ := hW
 obtain ⟨zs, hf, rfl⟩ := Option.map_eq_some_iff.mp hv
 refine bk ?_
 unfold nComp at hf
 split at hf
 · rename_i xs hx
   split at hf
   · rename_i hl
     rw [exec_Assign_Name_used _ _ _ _ (hsw _ hc)]
     refine wpAny_bind (wpAny_standAt (wpAny_bind ?_))
     show wpAny _ A (do let _ ← comprehension (.ListComp elt [⟨.Name x px, iter, ifs, 0⟩] scope pos) scope Γ.env _ (newList []) false (eval iter Γ.env) (some (assign (.Name y py) Γ.env))) _ _ s
     refine wpAny_bind (wpAny_mono (wpAny_comprehension_free (use := some (assign (.Name y py) Γ.env)) (Q := fun zz s' => Q .next s') rfl (hs _) (blk_clos B hΓ hc R) B.k (blk_names B) ?_) (fun zz s' hq => wpAny_pure (wpAny_pure hq)) fun zz zz e => e)
     refine wpAny_mono (hi G Γ mu s₀ σ ow s xs A _ hG hΓ hc hx R hm fun s₁ s₂ I there o₁ F => ?_) (fun zz zz h => h) fun zz zz h => h
     refine block_run B hG hΓ hc hm F.R₂ F.R₁.ok.tabs F.old F.nI F.I₀ F.X F.self F.at0 ht hE hf hl fun D C h' tk m ys n hD hC hDs hCs₀ hDo hDC ok o e pv hns => ?_
     have sh : ({ s₂ with heap := h', toks := tk } : Shared) = { s₁ with heap := h', toks := tk } := by
       refine wg fun P' bk => ?_
       obtain ⟨ha, ta, ea⟩ := F.R₁.sh
       obtain ⟨hb, tb', eb⟩ := F.R₂.sh
       refine bk ?_
       rw [ea, eb]
     rw [sh]
     have R' := F.R₁.step tk o ok
     have gs : Go Γ ow s ow { s₁ with heap := h', toks := tk } := Go.of_old (o₁.trans o) ok
     have hCs : s.heap.get? C = none := none_back o₁ F.R₁.ok.tabs hC
     have hLC : Γ.L ≠ C := fun z => by
       refine wg fun P' bk => ?_
       obtain ⟨m', ⟨oL, es, ep, eL, _⟩, _⟩ := R.m
       refine bk ?_
       rw [z, hCs] at eL; cases eL
     show wpAny _ A (assign (.Name y py) Γ.env (.ref D)) _ _ _
     refine wpAny_assign_Name (store_of i R' hΓ (hc ▸ hy) (.inl rfl) (v := .p (.lst zs)) ⟨D, ys, rfl, hDo, ⟨_, e, rfl, n, rfl⟩, pv.mono (fun b o e zz zz => e) fun zz zz zz k => k.1⟩ fun s₃ R₃ g₃ => ?_)
     have hns₃ : s₃.heap.Ns C m := by
       refine wg fun P' bk => ?_
       obtain ⟨oC, es, ep, eC, r⟩ := hns
       refine bk ?_
       refine ⟨oC, es, ep, g₃.ext C oC (fun hF => ?_) eC, r⟩
       rcases hF with h | h | h | ⟨z, h1, h2⟩
       · exact hLC h.symm
       · have := F.R₁.ow_lt C h
         exact absurd hC (by
           refine wg fun P' bk => ?_
           obtain ⟨us, k, q⟩ := F.R₁.own_obj h
           refine bk ?_
           rw [q]; nofun)
       · refine wg fun P' bk => ?_
         obtain ⟨ob, q⟩ := tab_there F.R₁.ok.tabs h
         refine bk ?_
         rw [hC] at q; cases q
       · refine wg fun P' bk => ?_
         obtain ⟨v₀, ob, q, _⟩ := F.R₁.cells z C h2
         refine bk ?_
         rw [hC] at q; cases q
     refine ⟨m, hns₃, fun h'' hsb => ?_⟩
     exact hQ .next _ ow _ _ hPo (R₃.drop hΓ s₃.toks hns₃ hsb hLC hCs₀) ((gs.trans g₃).drop (m := m) hsb hCs) rfl
   · cases hf
 · cases hf
end
noncomputable def findA (f : St → Option V) (fs : St → Option (List V)) : St → Option V := fun σ => match f σ, fs σ with
 | some (.p (.str x)), some [.p (.str y)] => some (.p (.int (Txt.find x y)))
 | some (.p (.str x)), some [.p (.str y), .p (.int i)] => some (.p (.int (Txt.find3 x y i)))
 | _, _ => none
section
variable {rm : Nat} {cs : Scope}
theorem findA_inv {f : St → Option V} {fs : St → Option (List V)} {σ : St} {v : V} (h : findA f fs σ = some v) : (∃ x y, f σ = some (.p (.str x)) ∧ fs σ = some [.p (.str y)] ∧ v = .p (.int (Txt.find x y))) ∨ (∃ x y i, f σ = some (.p (.str x)) ∧ fs σ = some [.p (.str y), .p (.int i)] ∧ v = .p (.int (Txt.find3 x y i))) :=
 eO (F := fun o => findA (fun _ => o) fs σ) (o := f σ) h zr fun x1 e1 h => eV (F := fun o => findA (fun _ => some o) fs σ) (o := x1) h zn fun x2 e2 h => eS (F := fun o => findA (fun _ => some (V.p o)) fs σ) (o := x2) h zr zn zn zn zn zn fun y e3 h => eO (F := fun o => findA (fun _ => some (V.p (P.str y))) (fun _ => o) σ) (o := fs σ) h zr fun l e4 h => eC (F := fun o => findA (fun _ => some (V.p (P.str y))) (fun _ => some o) σ) (o := l) h zr fun x3 l1 e5 h => eV (F := fun o => findA (fun _ => some (V.p (P.str y))) (fun _ => some (o :: l1)) σ) (o := x3) h zn fun x4 e6 h => eS (F := fun o => findA (fun _ => some (V.p (P.str y))) (fun _ => some (V.p o :: l1)) σ) (o := x4) h zr zn zn zn zn zn fun t e7 h => by
  have ef := e1.trans (congrArg some (e2.trans (congrArg V.p e3)))
  have e8 := e4.trans (congrArg some (e5.trans (congrFun (congrArg List.cons (e6.trans (congrArg V.p e7))) l1)))
  clear e1 e2 e3 e4 e5 e6 e7
  cases l1 with
  | nil => exact .inl ⟨y, t, ef, e8, (sij h).symm⟩
  | cons x5 l2 => exact eV (F := fun o => findA (fun _ => some (V.p (P.str y))) (fun _ => some (V.p (P.str t) :: o :: l2)) σ) (o := x5) h zn fun x6 e9 h => eI (F := fun o => findA (fun _ => some (V.p (P.str y))) (fun _ => some (V.p (P.str t) :: V.p o :: l2)) σ) (o := x6) h zr zn zn zn zn zn fun i e10 h => eN (F := fun o => findA (fun _ => some (V.p (P.str y))) (fun _ => some (V.p (P.str t) :: V.p (P.int i) :: o)) σ) (o := l2) h zm fun e11 h => .inr ⟨y, t, i, ef, by rw [e8, e9, e10, e11], (sij h).symm⟩
theorem ES_find {x : Str} {p ap pos : Pos} {e : PySem.Expr} {es : List PySem.Expr} {f : St → Option V} {fs : St → Option (List V)} (ho : ES rm cs (.Name x p) f) (hs : ESs rm cs (e :: es) fs) (hM : MC (.Name x p) (Str.ofString "find") ap (e :: es) pos)
   (hn : ∀ env, starEach (e :: es) env = (false, eval e env) :: starEach es env) (hn' : ∀ env pos, (backTo pos (starEach es env)).any (·.1) = false) : ES rm cs (.Call (.Attribute (.Name x p) (Str.ofString "find") ap) (e :: es) [] pos) (findA f fs) := fun G Γ mu s₀ σ ow s v A Q hG hΓ hc hf R hm hQ => by
 obtain ⟨pl, hpl⟩ := hM Γ.env
 refine MethodCall_ (pl := pl) ?_ hpl
 rcases findA_inv hf with ⟨tx, ty, h1, h2, rfl⟩ | ⟨tx, ty, i, h1, h2, rfl⟩
 ·
   refine ho G Γ mu s₀ σ ow s _ A _ hG hΓ hc h1 R hm fun ov s₁ vo R₁ o₁ => ?_
   obtain ⟨t, rfl⟩ := vo
   refine GM.find ?_
   with_reducible refine callWith_method1 ?_ (hn _) (hn' _ _)
   refine hs G Γ mu s₀ σ ow s₁ _ A pos _ hG hΓ hc h2 R₁ hm fun xs s₂ rs R₂ o₂ => ?_
   obtain ⟨_, _, rfl, ⟨u, rfl⟩, rfl⟩ := rs
   exact SC.find (hQ _ _ ⟨_, rfl⟩ (R₂.tok _) (o₁.trans o₂))
 ·
   refine ho G Γ mu s₀ σ ow s _ A _ hG hΓ hc h1 R hm fun ov s₁ vo R₁ o₁ => ?_
   obtain ⟨t, rfl⟩ := vo
   refine GM.find ?_
   with_reducible refine callWith_method1 ?_ (hn _) (hn' _ _)
   refine hs G Γ mu s₀ σ ow s₁ _ A pos _ hG hΓ hc h2 R₁ hm fun xs s₂ rs R₂ o₂ => ?_
   obtain ⟨_, _, rfl, ⟨u, rfl⟩, _, _, rfl, ⟨u', rfl⟩, rfl⟩ := rs
   exact SC.find3 (hQ _ _ ⟨_, rfl⟩ (R₂.tok _) (o₁.trans o₂))
noncomputable def cSS (f : St → Option V) (lo hi : St → Option (Option Int)) : St → Option V := fun σ => match f σ, lo σ, hi σ with
 | some (.p (.str x)), some a, some (some b) => if x.length ≤ 1000 then some (.p (.str (Txt.slice x a (some b)))) else none
 | _, _, _ => none
theorem cSS_inv {f : St → Option V} {lo hi : St → Option (Option Int)} {σ : St} {v : V} (h : cSS f lo hi σ = some v) : ∃ y a b, f σ = some (.p (.str y)) ∧ lo σ = some a ∧ hi σ = some (some b) ∧ (if y.length ≤ 1000 then some (V.p (.str (Txt.slice y a (some b)))) else none) = some v :=
 eO (F := fun o => cSS (fun _ => o) (fun _ => lo σ) (fun _ => hi σ) σ) (o := f σ) h zr fun x1 e2 h => eV (F := fun o => cSS (fun _ => (some o)) (fun _ => lo σ) (fun _ => hi σ) σ) (o := x1) h zn fun x3 e4 h => eS (F := fun o => cSS (fun _ => (some (V.p o))) (fun _ => lo σ) (fun _ => hi σ) σ) (o := x3) h zr zn zn zn zn zn fun y e5 h => eO (F := fun o => cSS (fun _ => (some (V.p (P.str y)))) (fun _ => o) (fun _ => hi σ) σ) (o := lo σ) h zr fun a e6 h => eO (F := fun o => cSS (fun _ => (some (V.p (P.str y)))) (fun _ => (some a)) (fun _ => o) σ) (o := hi σ) h zr fun x7 e8 h => eO (F := fun o => cSS (fun _ => (some (V.p (P.str y)))) (fun _ => (some a)) (fun _ => (some o)) σ) (o := x7) h zr fun b e9 h => ⟨y, a, b, e2.trans (congrArg some (e4.trans (congrArg V.p (e5)))), e6, e8.trans (congrArg some (e9)), h⟩
theorem ES_sslice {value : PySem.Expr} {l u : Option PySem.Expr} {p pos : Pos} {f : St → Option V} {lo hi : St → Option (Option Int)} (hv : ES rm cs value f) (h1 : EP rm cs l lo) (h2 : EP rm cs u hi)
   (hsub : ∀ o i, ∃ ops, subscripted (.Slice l u none p) false o i = operate ops (getItem o i)) (hlt : ∀ o r, letTemporaryGo value o r = pure ()) : ES rm cs (.Subscript value (.Slice l u none p) pos) (cSS f lo hi) := fun G Γ mu s₀ σ ow s v A Q hG hΓ hc hf R hm hQ => by
 have key : ∀ (x : Str) (a b : Option Int), f σ = some (.p (.str x)) → lo σ = some a → hi σ = some b → x.length ≤ 1000 → v = .p (.str (Txt.slice x a b)) → wpAny (model PG G.w) A (eval (.Subscript value (.Slice l u none p) pos) Γ.env) Q NoE s := fun x a b e1 e2 e3 hl hr => by
   with_reducible refine Subscript_ ?_
   refine hv G Γ mu s₀ σ ow s _ A _ hG hΓ hc e1 R hm fun y s₁ vy R₁ o₁ => ?_
   obtain ⟨t, rfl⟩ := vy
   with_reducible refine wpAny_Slice ?_
   refine h1 G Γ mu s₀ σ ow s₁ _ A _ hG hΓ hc e2 R₁ hm fun y1 s₂ i1 R₂ o₂ => ?_
   refine h2 G Γ mu s₀ σ ow s₂ _ A _ hG hΓ hc e3 R₂ hm fun y2 s₃ i2 R₃ o₃ => ?_
   with_reducible refine wpAny_evalPart_none ?_
   obtain ⟨ops, hops⟩ := hsub (.str x t) (.ref s₃.heap.objs.size)
   have hk : KeptByPush (fun s' : Shared => Rp G Γ mu s₀ σ ow s' ∧ Old tb s.heap s'.heap) := fun s' ob k x => ⟨x.1.step k (.push _) (x.1.ok.push _), x.2.trans (.push _)⟩
   have hI : Rp G Γ mu s₀ σ ow s₃ ∧ Old tb s.heap s₃.heap := ⟨R₃, (o₁.trans o₂).trans o₃⟩
   have hsz : x.length ≤ sizeLine := by rw [sizeLine_eq]; exact n9 ‹_› (by decide)
   subst hr
   have fin : ∀ s' t', (Rp G Γ mu s₀ σ ow s' ∧ Old tb s.heap s'.heap) → Q (.str (Txt.slice x a b) t') s' := fun s' t' z => hQ _ _ ⟨_, rfl⟩ z.1 z.2
   cases i1 with
   | none =>
     cases i2 with
     | none => exact tail_of_ItemOn (SBG.sliceItem_nn hk hI fin hsz) hops (hlt _)
     | int j tj => exact tail_of_ItemOn (SBG.sliceItem_ns hk hI fin hsz) hops (hlt _)
   | int i ti =>
     cases i2 with
     | none => exact tail_of_ItemOn (SBG.sliceItem_sn hk hI fin hsz) hops (hlt _)
     | int j tj => exact tail_of_ItemOn (SBG.sliceItem_ss hk hI fin hsz) hops (hlt _)
 obtain ⟨x, a, b, e1, e2, e3, hf⟩ := cSS_inv hf
 obtain ⟨hl, hf⟩ := ifS hf
 exact key x a (some b) e1 e2 e3 hl (sij hf).symm
noncomputable def splitA (f g : St → Option V) : St → Option V := fun σ => match f σ, g σ with
 | some (.p (.str x)), some (.p (.str y)) => if x.length ≤ 1000 ∧ y.length = 1 then some (.p (.lst ((Txt.split x y).map .str))) else none
 | _, _ => none
theorem strs_view {ok : Addr → Prop} {h : Heap} : ∀ (l : List (Str × Tok)), PVs ok h ((l.map (·.1)).map P.str) (strValues l)
 | [] => rfl
 | (x, t) :: l => ⟨.str x t, strValues l, rfl, ⟨t, rfl⟩, strs_view l⟩
open PySem.Builtin PySem.Builtin.Str in
theorem call_split1 {G : Gd} {A : Around} {E : Value → Shared → Prop} {Q : Value → Shared → Prop} {s : Shared} {x y : Str} {t u : Tok} (hy : (y.length == 0) = false) (hx : x.length ≤ 1000)
   (h : ∀ l k, l.map (·.1) = Txt.split x y → Q (.ref s.heap.objs.size) { s with heap := s.heap.push { cls := .type "list", data := .seq (strValues l).toArray }, toks := k }) :
   wpAny (model PG G.w) A (call (.builtin "str.split") [.str x t, .str y u]) Q E s := by
 have hs := sizeLine_eq
 have hn : (partsBetween x (occurrences x y 0 x.length (x.length + 1)) y.length).length ≤ sizeLine := by
   have e1 := StrLaws.occ_length_le x y 0 x.length (x.length + 1)
   rw [length_partsBetween]; lia
 cases h1 : (decide (x.length < y.length) || decide (strKind x < strKind y))
 · cases hf : (occurrences x y 0 x.length (x.length + 1)).isEmpty
   · refine call_meets F.slot_str_split (typeIs_str _ _ _) F.entry_str_split (F.args_str_split_2 _ _) (meets_str_split_sep x y t u h1 hy hf (by exact n9 ‹_› (by decide)) hn) ?_
     show wants Q E _ { s with toks := _, heap := s.heap.push { cls := .type "list", data := .seq (strsFrom s.toks (partsBetween x (occurrences x y 0 x.length (x.length + 1)) y.length)).toArray } }
     rw [strsFrom_eq]
     exact h (numbered s.toks _) _ ((numbered_texts _ _).trans ((if_neg (ne_true_of_eq_false h1)).trans (if_neg (ne_true_of_eq_false hf))).symm)
   · exact call_meets F.slot_str_split (typeIs_str _ _ _) F.entry_str_split (F.args_str_split_2 _ _) (meets_str_split_not_found x y t u h1 hy hf)
       (h [(x, t)] s.toks ((if_neg (ne_true_of_eq_false h1)).trans (if_pos hf)).symm)
 · exact call_meets F.slot_str_split (typeIs_str _ _ _) F.entry_str_split (F.args_str_split_2 _ _) (meets_str_split_cannot_occur x y t u h1)
     (h [(x, t)] s.toks (if_pos h1).symm)
theorem splitA_inv {f g : St → Option V} {σ : St} {v : V} (h : splitA f g σ = some v) : ∃ y t, f σ = some (.p (.str y)) ∧ g σ = some (.p (.str t)) ∧ (if y.length ≤ 1000 ∧ t.length = 1 then some (V.p (.lst ((Txt.split y t).map .str))) else none) = some v :=
 eO (F := fun o => splitA (fun _ => o) (fun _ => g σ) σ) (o := f σ) h zr fun x1 e2 h => eV (F := fun o => splitA (fun _ => (some o)) (fun _ => g σ) σ) (o := x1) h zn fun x3 e4 h => eS (F := fun o => splitA (fun _ => (some (V.p o))) (fun _ => g σ) σ) (o := x3) h zr zn zn zn zn zn fun y e5 h => eO (F := fun o => splitA (fun _ => (some (V.p (P.str y)))) (fun _ => o) σ) (o := g σ) h zr fun x6 e7 h => eV (F := fun o => splitA (fun _ => (some (V.p (P.str y)))) (fun _ => (some o)) σ) (o := x6) h zn fun x8 e9 h => eS (F := fun o => splitA (fun _ => (some (V.p (P.str y)))) (fun _ => (some (V.p o))) σ) (o := x8) h zr zn zn zn zn zn fun t e10 h => ⟨y, t, e2.trans (congrArg some (e4.trans (congrArg V.p (e5)))), e7.trans (congrArg some (e9.trans (congrArg V.p (e10)))), h⟩
theorem ES_split {o e : PySem.Expr} {ap pos : Pos} {f g : St → Option V} (ho : ES rm cs o f) (he : ES rm cs e g) (hM : MC o (Str.ofString "split") ap [e] pos)
   (hn : ∀ env, starEach [e] env = [(false, eval e env)]) : ES rm cs (.Call (.Attribute o (Str.ofString "split") ap) [e] [] pos) (splitA f g) := fun G Γ mu s₀ σ ow s v A Q hG hΓ hc hf R hm hQ => by
 obtain ⟨pl, hpl⟩ := hM Γ.env
 refine MethodCall_ (pl := pl) ?_ hpl
 obtain ⟨x, y, h1, h2, hf⟩ := splitA_inv hf
 obtain ⟨hl, hf⟩ := ifS hf
 ·
   ·
     obtain rfl := sij hf
     refine ho G Γ mu s₀ σ ow s _ A _ hG hΓ hc h1 R hm fun ov s₁ vo R₁ o₁ => ?_
     obtain ⟨t, rfl⟩ := vo
     refine GM.split ?_
     with_reducible refine callWith_method1 ?_ (hn _) rfl
     with_reducible refine spliced_more ?_ (hn _)
     refine he G Γ mu s₀ σ ow s₁ _ A _ hG hΓ hc h2 R₁ hm fun yv s₂ vy R₂ o₂ => ?_
     obtain ⟨u, rfl⟩ := vy
     with_reducible refine spliced_none ?_
     refine call_split1 (by rw [hl.2]; rfl) hl.1 fun l k hlk => ?_
     refine hQ _ _ ⟨s₂.heap.objs.size, strValues l, rfl, R₂.fresh, ⟨_, Heap.get?_push_size _ rfl, rfl, _, rfl⟩, ?_⟩ (R₂.step k (.push _) (R₂.ok.push _)) ((o₁.trans o₂).trans (.push _))
     rw [← hlk]
     exact strs_view l
end
theorem MC_sub {value slice : PySem.Expr} {sp : Pos} {name : Str} {ap pos : Pos} {args : List PySem.Expr} (h1 : (ap.endLine == pos.line) = true) (h2 : ∀ env, methodCallForm args.length (backTo pos (starEach args env)) [] = true) : MC (.Subscript value slice sp) name ap args pos := fun env => by
 refine ⟨(do return (← importBound (.Subscript value slice sp) env).getD true), ?_⟩
 have key : ∀ ov, methodCall (.Subscript value slice sp) name ap pos env ov (args.length + 0) (backTo pos (starEach args env)) [] = (do
     let (f, first) ← holding [ov] (getMethod ov name (do return (← importBound (.Subscript value slice sp) env).getD true))
     callWith pos f first (backTo pos (starEach args env)) []) := fun ov => by
   dsimp only [methodCall]
   rw [Nat.add_zero, h2]
   simp only [calleeOf, if_true, methodCallPos, h1, Bool.or_true]
   rfl
 show (do let ov ← eval (.Subscript value slice sp) env; standAt ap.atName; methodCall (.Subscript value slice sp) name ap pos env ov (args.length + 0) (backTo pos (starEach args env)) []) = _
 simp only [key]
section
variable {prog : Program} {w : World} {A : Around} {E : Value → Shared → Prop} {s : Shared} {env : Env}
theorem wpC_execs_nil {Q : Flow → Shared → Prop} (h : Q .next s) : wpC (model prog w) A (execs [] env) Q E s := wpC_of (wpAny_execs_nil h)
theorem wpC_execs_cons {st : Stmt} {rest : List Stmt} {Q : Flow → Shared → Prop} (h : wpC (model prog w) A (exec st env) (fun f s' => match f with | .next => wpC (model prog w) A (execs rest env) Q E s' | f => Q f s') E s) :
   wpC (model prog w) A (execs (st :: rest) env) Q E s := by
 rw [execs_cons]
 refine wpC_bind (wpC_mono h (fun f s' h' => ?_) fun zz zz e => e)
 cases f <;> first | exact h' | exact wpC_pure h'
theorem wpC_bindName {x : Str} {v : Value} {Q : Unit → Shared → Prop} (h : wpC (model prog w) A (storeName env x v) Q E s) : wpC (model prog w) A (bindName env x v) Q E s := fun Γ p hΓ z => by
 rw [Sem.wp_bindName]; exact h Γ p hΓ z
theorem wpC_Assign_Name {x : Str} {pos' pos : Pos} {value : PySem.Expr} {Q : Flow → Shared → Prop} (h : wpC (model prog w) A (eval value env) (fun v s₁ => wpC (model prog w) A (storeName env x v) (fun zz => Q .next) E s₁) E s)
   (hs : swapsWith value (some (.Name x pos')) pos.line env = pure false) : wpC (model prog w) A (exec (.Assign [.Name x pos'] value pos) env) Q E s := by
 rw [exec_Assign_Name env x pos' value pos hs]
 exact wpC_bind (wpC_standAt (wpC_bind (wpC_mono h (fun v s₁ h₁ => wpC_bind (wpC_standAt (wpC_bind (wpC_mono (wpC_bindName h₁) (fun zz s₂ h₂ => wpC_pure h₂) fun zz zz e => e)))) fun zz zz e => e)))
theorem wpC_Return_some {e : PySem.Expr} {pos : Pos} {Q : Flow → Shared → Prop} (h : wpC (model prog w) A (eval e env) (fun v => Q (.ret v)) E s) : wpC (model prog w) A (exec (.Return (some e) pos) env) Q E s := by
 rw [exec_Return_some]
 exact wpC_bind (wpC_standAt (wpC_bind (wpC_mono h (fun v s₁ h₁ => wpC_pure h₁) fun zz zz e => e)))
theorem wpC_Call_Name {x : Str} {p pos : Pos} {args : List PySem.Expr} {Q : Value → Shared → Prop} (h : wpC (model prog w) A (eval (.Name x p) env) (fun f s₁ => wpC (model prog w) A (callWith pos f [] (backTo pos (starEach args env)) []) Q E s₁) E s) :
   wpC (model prog w) A (eval (.Call (.Name x p) args [] pos) env) Q E s := by
 show wpC (model prog w) A (do callWith pos (← eval (.Name x p) env) [] (backTo pos (starEach args env)) (backToKw pos (keywordEach [] env))) Q E s
 exact wpC_bind h
theorem wpC_noted {α : Type} {m : Sem α} {Q : α → Shared → Prop} (h : wpC (model prog w) A m Q (notedBy (model prog w) A env E) s) : wpC (model prog w) A (m.onRaise fun x => do noteFrame x env; theTreesLotGoes x) Q E s :=
 wpC_onRaise (wpC_mono h (fun zz zz q => q) fun zz zz hx => wpC_of (wpAny_bind (wpAny_mono hx (fun zz zz e => wpAny_theTreesLotGoes e) fun zz zz e => e)))
theorem wpC_For {target iter : PySem.Expr} {body orelse : List Stmt} {pos : Pos} {Q : Flow → Shared → Prop}
   (h : wpAny (model prog w) A (eval iter env) (fun x s₁ => wpAny (model prog w) A (pyIter x) (fun it s₂ => codeC (model prog w) A (.forLoop target it body orelse env) (fun r s' => match r with | .ok f => Q f s' | .error e => cameBackBy (model prog w) A env E e s') s₂) E s₁) E s)
   (hs : ∀ x, foldedSetIterable iter env x = pure x) : wpC (model prog w) A (exec (.For target iter body orelse pos) env) Q E s := by
 rw [exec_For]
 refine wpC_bind (wpC_standAt (wpC_bind (wpC_mono (wpC_of h) (fun x s₁ h₁ => ?_) fun zz zz e => e)))
 rw [hs]
 refine wpC_bind (wpC_pure (wpC_bind (wpC_standAt (wpC_bind (wpC_holding (wpC_mono (wpC_of h₁) (fun it s₂ h₂ => ?_) fun zz zz e => e))))))
 unfold runOwn
 refine wpC_onRaise (wpC_mono (wpC_run (E := fun e s' => cameBackBy (model prog w) A env E e s') ?_ (by nofun)) (fun zz zz q => q) fun zz zz q => wpC_of q)
 exact h₂
theorem codeC_forLoop {R : Result → Shared → Prop} {target : PySem.Expr} {it : Value} {body : List Stmt} (I : Nat → Shared → Prop)
   (turn : ∀ n s, I n s → wpAny (model prog w) A (pyNext it) (fun r s₁ => match r with
     | none => R (.ok .next) s₁
     | some v => wpAny (model prog w) A (assign target env v) (fun zz s₂ => wpC (model prog w) A (execs body env) (fun f s₃ => match f with
         | .next | .cont => ∃ m, m < n ∧ I m s₃
         | .brk => R (.ok .next) s₃
         | .ret v => R (.ok (.ret v)) s₃) NoE s₂) NoE s₁) NoE s)
   (n : Nat) (h : I n s) (ht : ∀ v, letOwnedTupleGo target it v = pure ()) : codeC (model prog w) A (.forLoop target it body [] env) R s := by
 refine codeC_loop rfl rfl I (fun n s hI => ?_) n h
 show wpC _ _ ((forTurn target it body [] env).onRaise (fun x => do noteFrame x env; theTreesLotGoes x)) _ _ s
 refine wpC_noted ?_
 simp only [forTurn]
 refine wpC_bind (wpC_standAt (wpC_bind (wpC_onRaise (wpC_mono (wpC_of (turn n s hI)) (fun r s₁ h₁ => ?_) fun zz zz q => q.elim))))
 cases r with
 | none => exact wpC_pure (.inr ⟨rfl, codeC_of (codeAny_block (wpAny_execs_nil h₁))⟩)
 | some v =>
   refine wpC_bind ?_
   rw [ht v]
   refine wpC_pure ?_
   refine wpC_bind (wpC_mono (wpC_of h₁) (fun zz s₂ h₂ => wpC_bind (wpC_mono h₂ (fun f s₃ h₃ => ?_) fun zz zz q => q.elim)) fun zz zz q => q.elim)
   cases f with
   | next => exact wpC_pure (.inl ⟨rfl, h₃⟩)
   | cont => exact wpC_pure (.inl ⟨rfl, h₃⟩)
   | brk => exact wpC_pure h₃
   | ret v => exact wpC_pure h₃
theorem wpC_Try {body : List Stmt} {h₀ : ExceptHandler} {hs : List ExceptHandler} {pos : Pos} {Q : Flow → Shared → Prop}
   (h : wpC (model prog w) A (execs body env) (fun f s₁ => match f with | .next => Q .next s₁ | f => Q f s₁)
     (fun e s₁ => wpAny (model prog w) A (noteFrame e env) (fun zz s₂ => wpAny (model prog w) A (setFlight e none) (fun zz s₃ => wpAny (model prog w) A (handleBy e env (h₀ :: hs)) Q E s₃) E s₂) E s₁) s) :
   wpC (model prog w) A (exec (.Try body (h₀ :: hs) [] [] pos) env) Q E s := by
 rw [arm_exec_Try]
 refine wpC_bind (wpC_standAt ?_)
 dsimp only [tryStmt]
 dsimp only [List.isEmpty_nil, if_true, List.isEmpty_cons, Bool.false_and, Bool.false_eq_true, if_false]
 refine wpC_bind (wpC_attempt (wpC_mono h (fun f s₁ h₁ => ?_) fun e s₁ h₁ => ?_))
 · cases f <;> first | exact wpC_execs_nil h₁ | exact wpC_pure h₁
 · exact wpC_of (wpAny_bind (wpAny_mono h₁ (fun zz zz h₂ => wpAny_bind h₂) fun zz zz x => x))
theorem codeC_func {body : List Stmt} {R : Result → Shared → Prop}
   (h : wpC (model prog w) (A.deeper env) (execs body env) (fun f s' => R (.ok (.ret (match f with | .ret v => v | _ => .none))) s')
     (fun e s' => wpAny (model prog w) (A.deeper env) (leaving env e) (fun zz s'' => R (.error e) s'') (fun e' s'' => R (.error e') s'') s') s) :
   codeC (model prog w) A (.func body env) R s := by
 refine codeC_of_tree ?_
 show wpC _ (A.deeper env) (do point; match ← (execs body env).onRaise (leaving env) with | .ret v => ret v | _ => ret .none) _ _ s
 refine wpC_bind (wpC_of (wpAny_point ?_))
 refine wpC_bind (wpC_onRaise (wpC_mono h (fun f s' h' => ?_) fun zz zz h' => wpC_of h'))
 cases f <;> exact wpC_pure h'
theorem codeC_call_function {a : Addr} {args : Args} {o : Obj} {fd : FuncData} {body : List Stmt} {R : Result → Shared → Prop} (hroom : A.depth < recursionLimit) (ho : s.heap.get? a = some o)
   (hd' : o.data = .func fd) (hco : fd.scope.isCoroutine = false) (hgen : fd.scope.isGenerator = false) (hbody : fd.body = .stmts body) (hcd : s.heap.CodeRec fd.code fd.qualname)
   (h : wpAny (model prog w) A.in1 (bindArgs fd args) (fun binds s₁ =>
     wpAny (model prog w) A.in1 (newFunctionEnv fd.scope fd.globals fd.closure binds (fd.qualname ++ ".<locals>.") (some a) fd.code none fd.builtins)
       (fun env s₂ => s₂.heap.NoLimit ∧ codeC (model prog w) A (.func body env) R s₂) (fun e s' => R (.error e) s') s₁) (fun e s' => R (.error e) s') s) :
   codeC (model prog w) A (.call (.ref a) args) R s := by
 refine codeC_of_tree ?_
 show wpC _ A.in1 (callAny (.ref a) args) _ _ s
 dsimp only [callAny]
 refine wpC_bind (wpC_of (wpAny_load ho ?_))
 refine wg fun P' bk => ?_
 obtain ⟨c, oc, vs, tq, hc, hoc, hdc, hq⟩ := hcd
 refine bk ?_
 delta callFunction
 simp only [hd', hco, hgen, hbody, hc]
 rw [hc] at h
 refine wpC_bind (m := field (.ref c) 1) (wpC_of (wpAny_field hoc hdc hq ?_))
 refine wpC_bind (wpC_pure ?_)
 refine wpC_bind (wpC_mono (wpC_of h) (fun binds s₁ h₁ => ?_) fun zz zz h' => h')
 refine wpC_bind (wpC_mono (wpC_of h₁) (fun env s₂ h₂ => ?_) fun zz zz h' => h')
 exact wpC_bind (wpC_of (wpAny_enterFrame h₂.1 hroom (wpC_pure (And.intro rfl ⟨rfl, h₂.2⟩))))
end
end Mine
end
section
open PySem PySem.W PySem.Calls PyProof.Rows
namespace Mine
open PySem.NumText
theorem kz_none {own : List String} {codes : List Code} (h : (codes.any fun c => c.isCaller) = true) : pythonCodeMadeTheCall own codes = false := by
 unfold pythonCodeMadeTheCall
 exact (by rintro a b c rfl; rfl : ∀ a b c : Bool, a = true → (!a && b && c) = false) _ _ _ h
section
variable {prog : Program} {w : World} {A : Around} {E : Value → Shared → Prop} {s : Shared}
theorem wpC_mark {own : List String} {e : Value} {Q : Unit → Shared → Prop} (h : Q () s) : wpC (model prog w) A (markTheRefusal own e) Q E s := fun Γ p hΓ z => by
 have hz : ((((Γ.code, p) :: Γ.below).map (·.1)).any fun c => c.isCaller) = true := by
   simp only [List.map_cons, List.any_cons, List.any_map]
   exact z
 dsimp only [markTheRefusal]
 show Sem.wp _ Γ (stack >>= _) _ _ p s
 rw [Sem.wp_bind']
 show Sem.wp _ Γ (if pythonCodeMadeTheCall own (((Γ.code, p) :: Γ.below).map (·.1)) = true then _ else _) _ _ p s
 rw [kz_none hz]
 exact h
theorem wpC_raiseNew {α : Type} {e : Value} {Q : α → Shared → Prop} (hh : A.handled = none) (h : E e s) : wpC (model prog w) A (raiseNew e : Sem α) Q E s := wpC_of (wpAny_raiseNew_none hh h)
noncomputable def NewV (s : Shared) (E : Value → Shared → Prop) : Prop := ∀ h' tk e, Heap.NewExc s.heap h' e "ValueError" → E (.ref e) { s with heap := h', toks := tk }
theorem codeC_builtin {id : String} {args : Args} {b : Builtin} {R : Result → Shared → Prop} (hb : entryFor table id = some b) (hk : (Code.builtin id args).isCaller = false) (hw : A.under (.builtin id args) = A.in1)
   (h : wpC (model prog w) A.in1 (b args) (fun fin s' => match fin with | .done f => R (.ok f) s' | .again c' => c'.quiet = true ∧ codeC (model prog w) A c' R s') (fun e s' => R (.error e) s') s) : codeC (model prog w) A (.builtin id args) R s := by
 refine codeC_of_tree ?_
 rw [hw]
 show wpC _ _ (match entryFor table id with | some b => b args | none => unsupported ((withoutEnding? id "#data").getD id)) _ _ s
 rw [hb]
 refine wpC_mono h (fun fin s' hf => ?_) fun zz zz e => e
 cases fin with
 | done f => exact hf
 | again c' => exact ⟨hf.1, hk, hf.2⟩
theorem codeC_call_builtin {id : String} {args : Args} {b : Builtin} {R : Result → Shared → Prop} (hq : plainId id = true) (hb : entryFor table id = some b) (hc : checkBuiltinCall id args = pure ()) (hk : (Code.builtin id args).isCaller = false)
   (h : wpC (model prog w) A.in1 (b args) (fun fin s' => match fin with | .done f => R (.ok f) s' | .again c' => c'.quiet = true ∧ codeC (model prog w) A c' R s') (fun e s' => R (.error e) s') s) : codeC (model prog w) A (.call (.builtin id) args) R s := by
 refine codeC_of_tree ?_
 show wpC _ A.in1 (do checkBuiltinCall id args; again (.builtin id args)) _ _ s
 rw [hc]
 exact wpC_bind (wpC_pure (wpC_pure ⟨plainId_quiet hq _, rfl, codeC_builtin hb hk (Around.under_plainId hq _) h⟩))
theorem tc_int (v : Value) : ∃ R : Value → Sem Fin, Builtin.«type.__call__» ⟨[.type "int", v], []⟩ = (holding [.builtin "int.__new__"] (call (.builtin "int.__new__") [.type "int", v]) >>= R) := by
 have h1 := F.called_int.made
 have h2 := F.mro_int
 have h3 := F.typeCall_int_1 v
 have h4 : (Value.type "int" == Value.type "type") = false := F.called_int.notType
 have h5 := F.called_int.canCreate
 dsimp only [Builtin.«type.__call__»]
 simp only [h1, h2, h3, h4, pure_bind, Bool.false_eq_true, if_false, List.isEmpty_cons]
 rw [if_neg (by rw [h5]; exact Bool.false_ne_true)]
 exact ⟨_, rfl⟩
theorem new_x (t : Tok) : Builtin.«int.__new__» ⟨[.type "int", .str ⟨#[120]⟩ t], []⟩ = ((int_private% "intFromText") (.str ⟨#[120]⟩ t) [120] 10 >>= fun v => ret v) := by kernel_rfl
theorem text_x (t : Tok) : (int_private% "intFromText") (.str ⟨#[120]⟩ t) [120] 10 = (rule "int.__new__.invalid-literal" >>= fun zz => pyRepr (.str ⟨#[120]⟩ t) >>= fun shown => mkStr ((((s!"invalid literal for int() with base {10}: " : String) ++ ⟨shown.cps.extract 0 200⟩ : Str))) >>= fun m => newExc (.type "ValueError") [m] >>= fun refusal => markTheRefusal ["int.__new__"] refusal >>= fun zz => (raiseNew refusal : Sem Value)) := by rfl
theorem int_bad {t : Tok} {Q : Value → Shared → Prop} (hh : A.handled = none) (hE : NewV s E) : wpC (model prog w) A (call (.type "int") [.str ⟨#[120]⟩ t]) Q E s := by
 refine wpC_call (codeC_of_tree ?_)
 show wpC _ _ (pure (Fin.again (.builtin "type.__call__" ⟨[.type "int", .str ⟨#[120]⟩ t], []⟩))) _ _ s
 refine wpC_pure ⟨Code.quiet_builtin _ (by decide +kernel), rfl, codeC_builtin F.entry_type_call rfl (Around.under_plain (weight_type_call_type _ _ _) (units_type_call_type _ _ _)) ?_⟩
 obtain ⟨K, hK⟩ := tc_int (.str ⟨#[120]⟩ t)
 rw [hK]
 refine wpC_bind (wpC_holding (wpC_call (codeC_call_builtin F.called_int.plain F.entry_int_new (F.newCall_int_1 _) rfl ?_)))
 rw [new_x, text_x]
 refine wpC_bind (wpC_bind (wpC_of (wpAny_rule ?_)))
 refine wpC_bind (wpC_of (wpAny_pyRepr_str ?_ (by decide +kernel)))
 refine wpC_bind (wpC_of (wpAny_mkStr ?_ (by decide +kernel)))
 refine wpC_bind (wpC_of (wpAny_newExc_plain plainExc_ValueError ?_))
 intro h' e hm
 refine wpC_bind (wpC_mark ?_)
 refine wpC_raiseNew hh ?_
 obtain ⟨tt, h1, h2, h3⟩ := hm.there
 exact hE h' _ e ⟨hm.keeps, hm.new, _, _, h1, rfl, rfl⟩
end
end Mine
end
section
open PySem PySem.W PySem.Calls PyProof.Rows
namespace Mine
noncomputable abbrev bmE : List Value := [.type "Exception", .type "BaseException", .type "object"]
structure ClsK (x : Str) (C : Addr) : Prop where
 o : ∀ w, ∃ nm q N bs bm hdct sn sub ab col dd k0 k1 k2 k3 k5, (KF w).lookup C = some (excClassObj nm q C N bs bm hdct sn sub ab col dd k0 k1 k2 k3 k5 "Exception.__new__") ∧ nsOkIn (KF w) N = true ∧ nsIn (KF w) N "__init__" = some none ∧ tailIn (KF w) bmE bm = true
 g : Gn x (.ref C)
theorem cls_reply : ClsK (Str.ofString "error_reply") 97 := ⟨fun w => ⟨_, _, _, _, _, _, _, _, _, _, _, _, _, _, _, _, by rfl, by kernel_rfl, by kernel_rfl, by kernel_rfl⟩, fun w => by kernel_rfl, by kernel_rfl⟩
theorem cls_proto : ClsK (Str.ofString "error_proto") 109 := ⟨fun w => ⟨_, _, _, _, _, _, _, _, _, _, _, _, _, _, _, _, by rfl, by kernel_rfl, by kernel_rfl, by kernel_rfl⟩, fun w => by kernel_rfl, by kernel_rfl⟩
inductive Ex where
 | own (C : Addr) (x : Str) | lib | zde
noncomputable def RaisedAt : Ex → Heap → Heap → Addr → Prop
 | .own C x, h, h', e => ∃ u, Heap.MadeExcOf h h' e (.ref C) [.str x u]
 | .lib, h, h', e => Heap.NewExc h h' e "ValueError"
 | .zde, h, h', e => Heap.MadeExc h h' e "ZeroDivisionError" []
theorem raise_cls {prog : Program} {w : World} {A : Around} {E : Value → Shared → Prop} {s : Shared} {env : Env} {X N I N' I' : String} {x : Str} {np pos : Pos} {Q : Flow → Shared → Prop} (FC : ExcCallFacts X N I) (FR : ExcRaiseFacts X) (hc : ExcClass X N' I') (hself : isSubtype (.type X) (.type X) = pure true) (hh : A.handled = none)
   (hx : ∀ Q' : Value → Shared → Prop, Q' (.type X) s → wpAny (model prog w) A (eval (.Name x np) env) Q' E s) (h : ∀ h' e, Heap.MadeExc s.heap h' e X [] → E (.ref e) { s with heap := h' }) :
   wpAny (model prog w) A (exec (.Raise (some (.Name x np)) none pos) env) Q E s := by
 have hsub := FR.isExc
 show wpAny (model prog w) A (do standAt pos; raiseStmt env (some (do let v ← eval (.Name x np) env; standAt pos; pure v)) none) Q E s
 refine wpAny_bind (wpAny_standAt ?_)
 dsimp only [raiseStmt]
 refine wpAny_bind (wpAny_bind (hx _ (wpAny_bind (wpAny_standAt (wpAny_pure ?_)))))
 obtain ⟨hp, g, d, tk, os⟩ := s
 refine wpAny_bind (wpAny_pure (wpAny_bind (wpAny_holding ?_)))
 dsimp only [excFromValue, isExcClass]
 refine wpAny_bind (wpAny_bind (wpAny_pure ?_))
 rw [if_pos rfl, hsub]
 refine wpAny_pure ?_
 rw [if_pos rfl]
 refine wpAny_bind (wpAny_call_exc FC fun h' e hm => ?_)
 obtain ⟨t, he, ht0, ht⟩ := hm.there
 have hT : (⟨h', g, d, tk, os⟩ : Shared).TypeIs (.ref e) X := ⟨_, he, rfl⟩
 repeat (first | with_reducible refine wpAny_isInstance hT hsub ?_ | with_reducible refine wpAny_typeOf hT ?_ | with_reducible refine call_issubclass (issubclass_self hc hself) ?_ | with_reducible refine wpAny_raiseNew_none hh ?_ | (with_reducible refine wpAny_field (i := 1) (x := Value.none) he rfl rfl ?_) | wp_step)
 exact h h' e hm
section
variable {rm : Nat} {cs : Scope}
theorem raise_own (i : Nat) {x : Str} {C : Addr} {np cpos pos : Pos} {e : PySem.Expr} {f : St → Option V} {tx : Str} {G : Gd} {Γ : Fi} {mu : List Addr} {s₀ s : Shared} {σ : St} {ow : List Addr} {A : Around} {Q : Flow → Shared → Prop} {E : Value → Shared → Prop}
   (K : ClsK x C) (hx : cs.names[i]? = some (x, .globalImplicit)) (he : ES rm cs e f) (hn : ∀ env, starEach [e] env = [(false, eval e env)]) (hG : G.Ok) (hΓ : Γ.Ok G mu s₀.heap) (hc : Γ.cs = cs) (hf : f σ = some (.p (.str tx))) (R : Rp G Γ mu s₀ σ ow s) (hm : RmG rm Γ A)
   (hE : ∀ s₁ h' ex u, Rp G Γ mu s₀ σ ow s₁ → Old tb s.heap s₁.heap → Heap.MadeExcOf s₁.heap h' ex (.ref C) [.str tx u] → E (.ref ex) { s₁ with heap := h' }) :
   wpAny (model PG G.w) A (exec (.Raise (some (.Call (.Name x np) [e] [] cpos)) none pos) Γ.env) Q E s := by
 refine wg fun P' bk => ?_
 obtain ⟨nm, q, N, bs, bm, hdct, sn, sub, ab, col, dd, k0, k1, k2, k3, k5, hl, hok, hni, ht⟩ := K.o G.w
 have keyC : ∀ s' : Shared, G.at s'.heap → (KF G.w).In s'.heap := fun s' ok p o e => ok.stay p o (hG.X p o e)
 have X₀ := keyC s R.ok
 refine bk ?_
 refine wpAny_Raise_call_subT (C := C) (nm := nm) (q := q) (N := N) (bs := bs) (bm := bm) (hdct := hdct) (sn := sn) (sub := sub) (ab := ab) (col := col) (dd := dd) (k0 := k0) (k1 := k1) (k2 := k2) (k3 := k3) (k5 := k5) (mN := s.heap.nsMap N) PySem.F.excBase_Exception ((tail_of_in X₀ ht).hasType (by decide +kernel)) hm.hd (by rw [hn]; rfl) (nsMap_none_of_in X₀ hok hni) ?_
 refine name_G i K.g hG hΓ (hc ▸ hx) R.ok ⟨rfl, ?_⟩
 rw [hn]
 refine Calls.evalArgs_plain ?_
 refine wpAny_mono (E := NoE) ?_ (fun zz zz h => h) (fun zz zz h => h.elim)
 refine Calls.spliced_cons ?_
 refine he G Γ mu s₀ σ ow s _ A _ hG hΓ hc hf R hm fun y s₁ vy R₁ o₁ => ?_
 refine wg fun P' bk => ?_
 obtain ⟨u, rfl⟩ := vy
 refine bk ?_
 refine Calls.spliced_nil ?_
 have X₁ := keyC s₁ R₁.ok
 have hN : s₁.heap.Ns N (s.heap.nsMap N) := by
   have h1 : s.heap.Ns N (s.heap.nsMap N) := .of_isNs (isNs_of_in X₀ hok)
   exact o₁.ns R.ok.tabs h1
 exact ⟨rfl, by rw [sizeLine_eq]; simp, X₁ _ _ hl, hN, tail_of_in X₁ ht, fun h' ex hm => hE s₁ h' ex u R₁ o₁ hm⟩
noncomputable abbrev SWX := St → Post → (Ex → Prop) → Prop
noncomputable def SX (rm : Nat) (cs : Scope) (ss : List Stmt) (W : SWX) : Prop :=
 ∀ (G : Gd) (Γ : Fi) (mu : List Addr) (s₀ : Shared) (σ : St) (ow : List Addr) (s : Shared) (A : Around) (Po : Post) (Pe : Ex → Prop) (Q : Flow → Shared → Prop) (E : Value → Shared → Prop),
   G.Ok → Γ.Ok G mu s₀.heap → Γ.cs = cs → W σ Po Pe → Rp G Γ mu s₀ σ ow s → RmG rm Γ A →
   (∀ fl σ' ow' s' f, Po fl σ' → Rp G Γ mu s₀ σ' ow' s' → Go Γ ow s ow' s' → FR s'.heap ow' fl f → Q f s') →
   (∀ ex σ' ow' s₁ h' tk e, Pe ex → Rp G Γ mu s₀ σ' ow' s₁ → Go Γ ow s ow' s₁ → RaisedAt ex s₁.heap h' e → E (.ref e) { s₁ with heap := h', toks := tk }) →
   wpC (model PG G.w) A (execs ss Γ.env) Q E s
noncomputable def xSeq (W₁ : SW) (W₂ : SWX) : SWX := fun σ Po Pe => W₁ σ fun fl σ' => match fl with
 | .next => W₂ σ' Po Pe
 | fl => Po fl σ'
theorem SX_cons {st : Stmt} {ss : List Stmt} {W₁ : SW} {W₂ : SWX} (h₁ : S1 rm cs st W₁) (h₂ : SX rm cs ss W₂) : SX rm cs (st :: ss) (xSeq W₁ W₂) := fun G Γ mu s₀ σ ow s A Po Pe Q E hG hΓ hc hW R hm hQ hE => by
 refine wpC_execs_cons (wpC_of (wpAny_mono (h₁ G Γ mu s₀ σ ow s A _ (fun f s' => match f with | .next => wpC (model PG G.w) A (execs ss Γ.env) Q E s' | f => Q f s') hG hΓ hc hW R hm fun fl σ' ow' s' f hPo R' g hf => ?_) (fun f s' h => by cases f <;> exact h) fun zz zz e => e.elim))
 cases fl with
 | next =>
   cases hf
   exact h₂ G Γ mu s₀ σ' ow' s' A Po Pe Q E hG hΓ hc hPo R' hm (fun fl σ'' ow'' s'' f hPo R'' g' hf => hQ fl σ'' ow'' s'' f hPo R'' (g.trans g') hf) fun ex σ'' ow'' s'' h' tk e p R'' g' r => hE ex σ'' ow'' s'' h' tk e p R'' (g.trans g') r
 | brk => cases hf; exact hQ .brk σ' ow' s' _ hPo R' g rfl
 | cont => cases hf; exact hQ .cont σ' ow' s' _ hPo R' g rfl
 | ret v => obtain ⟨y, rfl, vy⟩ := hf; exact hQ (.ret v) σ' ow' s' _ hPo R' g ⟨y, rfl, vy⟩
theorem SX_of {ss : List Stmt} {W : SW} (h : SS rm cs ss W) : SX rm cs ss (fun σ Po zz => W σ Po) := fun G Γ mu s₀ σ ow s A Po Pe Q E hG hΓ hc hW R hm hQ hE =>
 wpC_of (wpAny_mono (h G Γ mu s₀ σ ow s A Po Q hG hΓ hc hW R hm hQ) (fun zz zz h => h) fun zz zz e => e.elim)
noncomputable def xIf (c : St → Option Bool) (C : Addr) (f : St → Option V) (W : SWX) : SWX := fun σ Po Pe => ∃ b, c σ = some b ∧ if b = true then ∃ x, f σ = some (.p (.str x)) ∧ Pe (.own C x) else W σ Po Pe
theorem SX_if (i : Nat) {t e : PySem.Expr} {x : Str} {C : Addr} {np cpos rpos pos : Pos} {ss : List Stmt} {c : St → Option Bool} {f : St → Option V} {W : SWX} (ht : CT rm cs t c) (K : ClsK x C) (hx : cs.names[i]? = some (x, .globalImplicit)) (he : ES rm cs e f) (hn : ∀ env, starEach [e] env = [(false, eval e env)]) (h₂ : SX rm cs ss W) :
   SX rm cs (.If t [.Raise (some (.Call (.Name x np) [e] [] cpos)) none rpos] [] pos :: ss) (xIf c C f W) := fun G Γ mu s₀ σ ow s A Po Pe Q E hG hΓ hc hW R hm hQ hE => by
 obtain ⟨b, hb, hW⟩ := hW
 refine wpC_execs_cons (wpC_of ?_)
 refine wpAny_If (wpAny_mono (ht G Γ mu s₀ σ ow s b A (fun b s' => wpAny (model PG G.w) A (if b = true then execs [.Raise (some (.Call (.Name x np) [e] [] cpos)) none rpos] Γ.env else execs [] Γ.env) (fun f s' => match f with | .next => wpC (model PG G.w) A (execs ss Γ.env) Q E s' | f => Q f s') E s') hG hΓ hc hb R hm fun s' R' o' => ?_) (fun b s' h => by cases b <;> exact h) fun zz zz e => e.elim)
 cases b with
 | true =>
   simp only [if_true] at hW ⊢
   obtain ⟨tx, hf, hPe⟩ := hW
   refine wpAny_execs_cons ?_
   refine raise_own i K hx he hn hG hΓ hc hf R' hm fun s₁ h' ex u R₁ o₁ hmade => ?_
   exact hE (.own C tx) σ ow s₁ h' s₁.toks ex hPe R₁ (Go.of_old (o'.trans o₁) R₁.ok) ⟨u, hmade⟩
 | false =>
   simp only [Bool.false_eq_true, if_false] at hW ⊢
   refine wpAny_execs_nil ?_
   have g := Go.of_old (Γ := Γ) (ow := ow) o' R'.ok
   exact h₂ G Γ mu s₀ σ ow s' A Po Pe Q E hG hΓ hc hW R' hm (fun fl σ'' ow'' s'' f hPo R'' g' hf => hQ fl σ'' ow'' s'' f hPo R'' (g.trans g') hf) fun ex σ'' ow'' s'' h' tk e p R'' g' r => hE ex σ'' ow'' s'' h' tk e p R'' (g.trans g') r
noncomputable def xInt (i : Nat) (f : St → Option V) (W : SWX) : SWX := fun σ Po Pe => ∃ x, f σ = some (.p (.str x)) ∧ ((∃ n, x.length ≤ 640 ∧ PySem.intText? x = some n ∧ W (σ.put i (.p (.int n))) Po Pe) ∨ (x = ⟨#[120]⟩ ∧ Pe .lib))
theorem SX_int (i j : Nat) {x : Str} {k : NameKind} {e : PySem.Expr} {p np cpos pos : Pos} {ss : List Stmt} {f : St → Option V} {W : SWX} (B : Bn (Str.ofString "int") (.type "int")) (hx : cs.names[i]? = some (x, k)) (hk : k = .local ∨ k = .cell) (hj : cs.names[j]? = some (Str.ofString "int", .globalImplicit)) (he : ES rm cs e f) (hn : ∀ env, starEach [e] env = [(false, eval e env)])
   (hs : ∀ env : Env, env.scope = cs → swapsWith (.Call (.Name (Str.ofString "int") np) [e] [] cpos) (some (.Name x p)) pos.line env = pure false) (h₂ : SX rm cs ss W) :
   SX rm cs (.Assign [.Name x p] (.Call (.Name (Str.ofString "int") np) [e] [] cpos) pos :: ss) (xInt i f W) := fun G Γ mu s₀ σ ow s A Po Pe Q E hG hΓ hc hW R hm hQ hE => by
 obtain ⟨tx, hf, hW⟩ := hW
 refine wpC_execs_cons (wpC_Assign_Name ?_ (hs _ hc))
 refine wpC_Call_Name (wpC_of (name_B j B hG hΓ (hc ▸ hj) R.ok ?_))
 rw [hn]
 show wpC _ A (callWith cpos (.type "int") [] [(false, eval e Γ.env)] []) _ _ s
 have ev : ∀ K : Value → Shared → Prop, (∀ u s₁, Rp G Γ mu s₀ σ ow s₁ → Old tb s.heap s₁.heap → K (.str tx u) s₁) → wpAny (model PG G.w) A (evalArgs (.type "int") true [(false, eval e Γ.env)] []) (fun a s₁ => ∃ y, a = ⟨[y], []⟩ ∧ K y s₁) E s := fun K hK => by
   refine Calls.evalArgs_plain ?_
   refine wpAny_mono (E := NoE) ?_ (fun zz zz h => h) (fun zz zz h => h.elim)
   refine Calls.spliced_cons ?_
   refine he G Γ mu s₀ σ ow s _ A _ hG hΓ hc hf R hm fun y s₁ vy R₁ o₁ => ?_
   obtain ⟨u, rfl⟩ := vy
   exact Calls.spliced_nil ⟨_, rfl, hK u s₁ R₁ o₁⟩
 delta callWith; dsimp only
 refine wpC_bind (wpC_holding (wpC_mono (wpC_of (ev (fun y s₁ => wpC (model PG G.w) A (call (.type "int") [y]) (fun v s₂ => wpC (model PG G.w) A (storeName Γ.env x v) (fun zz s₃ => wpC (model PG G.w) A (execs ss Γ.env) Q E s₃) E s₂) E s₁) fun u s₁ R₁ o₁ => ?_)) (fun a s₁ h₁ => ?_) fun zz zz e => e))
 · have g₁ := Go.of_old (Γ := Γ) (ow := ow) o₁ R₁.ok
   rcases hW with ⟨n, hl, hn', hW⟩ | ⟨rfl, hPe⟩
   · refine wpC_of (KIN.call_text hn' hl (wpC_of ?_))
     refine wpAny_mono (store_of (v := .p (.int n)) (Q := fun zz s₃ => wpC (model PG G.w) A (execs ss Γ.env) Q E s₃) (E := E) i (R₁.tok (s₁.toks + 1)) hΓ (hc ▸ hx) hk ⟨_, rfl⟩ fun s' R' g => ?_) (fun zz zz h => h) fun zz zz h => h
     have gg := (show Go Γ ow s ow { s₁ with toks := s₁.toks + 1 } from ⟨g₁.ext, g₁.live, g₁.pre, g₁.fresh⟩).trans g
     exact h₂ G Γ mu s₀ _ ow s' A Po Pe Q E hG hΓ hc hW R' hm (fun fl σ'' ow'' s'' f hPo R'' g' hf => hQ fl σ'' ow'' s'' f hPo R'' (gg.trans g') hf) fun ex σ'' ow'' s'' h' tk e p R'' g' r => hE ex σ'' ow'' s'' h' tk e p R'' (gg.trans g') r
   · exact int_bad hm.hd fun h' tk ex hnew => hE .lib σ ow s₁ h' tk ex hPe R₁ g₁ hnew
 · obtain ⟨y, rfl, h₁⟩ := h₁
   refine wpC_bind (wpC_standAt ?_)
   refine wpC_bind (wpC_pure ?_)
   exact wpC_bind (wpC_mono h₁ (fun r s₂ hr => wpC_bind (wpC_holding (wpC_of (wpAny_point (wpC_pure hr))))) fun zz zz e => e)
theorem SX_zde (i : Nat) {t : PySem.Expr} {np rpos pos : Pos} {orelse : List Stmt} {c : St → Option Bool} (ht : CT rm cs t c) (B : Bn (Str.ofString "ZeroDivisionError") (.type "ZeroDivisionError")) (hx : cs.names[i]? = some (Str.ofString "ZeroDivisionError", .globalImplicit)) :
   SX rm cs [.If t [.Raise (some (.Name (Str.ofString "ZeroDivisionError") np)) none rpos] orelse pos] (fun σ zz Pe => c σ = some true ∧ Pe .zde) := fun G Γ mu s₀ σ ow s A Po Pe Q E hG hΓ hc hW R hm hQ hE => by
 obtain ⟨hb, hPe⟩ := hW
 refine wpC_execs_cons (wpC_of ?_)
 refine wpAny_If (wpAny_mono (E := NoE) (Q := fun b s' => b = true ∧ wpAny (model PG G.w) A (execs [.Raise (some (.Name (Str.ofString "ZeroDivisionError") np)) none rpos] Γ.env) (fun f s' => match f with | .next => wpC (model PG G.w) A (execs [] Γ.env) Q E s' | f => Q f s') E s') (ht G Γ mu s₀ σ ow s true A _ hG hΓ hc hb R hm fun s' R' o' => ⟨rfl, ?_⟩) (fun b s' ⟨e, h⟩ => ?_) fun zz zz e => e.elim)
 · refine wpAny_execs_cons ?_
   refine raise_cls PySem.F.excCall_ZeroDivisionError PySem.F.excRaise_ZeroDivisionError excClass_ZeroDivisionError (by rw [isSubtype_type]; kernel_rfl) hm.hd (fun Q' q => name_B i B hG hΓ (hc ▸ hx) R'.ok q) fun h' ex hmade => ?_
   exact hE .zde σ ow s' h' s'.toks ex hPe R' (Go.of_old o' R'.ok) hmade
 · subst e
   exact h
end
noncomputable abbrev plainFi (qual : Str) (cs : Scope) (L : Addr) (f : Addr) (cdv : Value) : Fi := ⟨qual, cs, L, L, some f, cdv, []⟩
theorem entryC {rm : Nat} {f : Addr} {qual : Str} {params : Arguments} {body : List Stmt} {cs : Scope} {dV kV : Value} {pn : List Str} {m : Nat} (B : FnRec f qual params body cs dV kV) (T : TakesPos qual params body cs dV kV pn) (C : Plain cs pn m)
   {G : Gd} {s : Shared} {xs : List P} {ys : List Value} {A : Around} {R : Result → Shared → Prop} (hG : G.Ok) (ok : G.at s.heap) (hm : Rm (rm + 1) A) (hv : PVs (fun zz => True) s.heap xs ys) (hxl : xs.length = pn.length)
   (h : ∀ h₁ tk cdv, Fi.Ok G.off (plainFi qual cs s.heap.objs.size f cdv) [] s.heap → Rp G.off (plainFi qual cs s.heap.objs.size f cdv) [] s (St.of xs m) [] { s with heap := h₁, toks := tk } → (∀ b o, s.heap.get? b = some o → h₁.get? b = some o) →
     RmG rm (plainFi qual cs s.heap.objs.size f cdv) (A.deeper (plainFi qual cs s.heap.objs.size f cdv).env) →
     wpC (model PG G.w) (A.deeper (plainFi qual cs s.heap.objs.size f cdv).env) (execs body (plainFi qual cs s.heap.objs.size f cdv).env) (fun fl s' => R (.ok (.ret (retOf fl))) s')
       (fun e s' => wpAny (model PG G.w) (A.deeper (plainFi qual cs s.heap.objs.size f cdv).env) (leaving (plainFi qual cs s.heap.objs.size f cdv).env e) (fun zz s'' => R (.error e) s'') (fun e' s'' => R (.error e') s'') s') { s with heap := h₁, toks := tk }) :
   codeC (model PG G.w) A (.call (.ref f) ⟨ys, []⟩) R s := by
 obtain ⟨oc, od, osl, name, doc, pm, an, cdv, ct, hf, hcd⟩ := B.o G.w
 have hlen : ys.length = pn.length := hv.len.trans hxl
 have K : (KF G.w).In s.heap := fun p o e => ok.stay p o (hG.X p o e)
 have hlim : s.heap.NoLimit := let ⟨mc, n, q⟩ := hG.nolimit; ⟨mc, n.keeps ok.stay, q⟩
 have C' : NoCell cs pn := ⟨C.n, C.nd, fun x hx => (C.cell x hx).1, C.k, C.co, C.gen, C.mark⟩
 refine codeC_call_function (fd := fnX name qual params body cs [] dV kV doc pm an cdv ct) (body := body) (by have := hm.dp; exact m4 ‹_›) (K _ _ hf) rfl C.co C.gen rfl (codeRec_of K hcd) (T name doc pm an cdv ct s ys hlen _ _ _ _ ?_)
 refine wpAny_newFunctionEnv (fun x hx => (C.cell x hx).1) (C'.loc (ys := ys)) (fun h₁ hns hsb => ⟨hlim.fresh _ hsb, ?_⟩) C.k
 have hst : ∀ b o, s.heap.get? b = some o → h₁.get? b = some o := fun b o e => hsb.extBut b o (Nat.ne_of_lt (Heap.lt_size e)) (Heap.get?_push_of_some _ e)
 obtain ⟨hΓ, R'⟩ := start (G := G.off) (rest := List.replicate m none) (mu := []) (ow := []) (own := []) (tk := s.toks + (pn.zip ys).length) (f := f) (cdv := cdv) (qual := qual) (cl := []) ok.of C' (Base.none (m := m) rfl) (hv.mono (fun b o e zz zz => e) (fun b o e zz => by simp)) hxl hns hst
 have hm' : RmG rm (plainFi qual cs s.heap.objs.size f cdv) (A.deeper (plainFi qual cs s.heap.objs.size f cdv).env) := .of ⟨hm.hd, by have := hm.dp; show A.depth + 1 + rm < _; exact m5 ‹_›, by have := hm.un; show A.units + 3 + 10 * rm < _; lia⟩ (by rw [show markOf cs = none from C.mark]; nofun)
 exact codeC_func (wpC_mono (h h₁ _ cdv hΓ R' hst hm') (fun fl s' q => by cases fl <;> exact q) fun zz zz q => q)
noncomputable def frs (l : List Env) : List Addr := l.filterMap (·.frame)
structure FF (h : Heap) (l : List Env) : Prop where
 fun_ : ∀ env ∈ l, env.scope.kind ≠ .module
 fr : ∀ env ∈ l, ∃ L o es n, env.frame = some L ∧ h.get? L = some o ∧ o.data = .dict es n
theorem FF.mem {h : Heap} {l : List Env} (x : FF h l) {L : Addr} (hL : L ∈ frs l) : ∃ o es n, h.get? L = some o ∧ o.data = .dict es n := by
 refine wg fun P' bk => ?_
 obtain ⟨env, he, hf⟩ := List.mem_filterMap.mp hL
 obtain ⟨L', o, es, n, h1, h2, h3⟩ := x.fr env he
 refine bk ?_
 rw [hf] at h1; obtain rfl := sij h1
 exact ⟨o, es, n, h2, h3⟩
theorem FF.funFrames {h base : Heap} : ∀ {l : List Env}, FF h l → (∀ L ∈ frs l, base.get? L = none) → h.FunFrames base l
 | [], _, _ => trivial
 | env :: l, x, hb => by
   obtain ⟨L, o, es, n, h1, h2, h3⟩ := x.fr env (.head _)
   refine ⟨x.fun_ env (.head _), ⟨L, o, h1, hb L (List.mem_filterMap.mpr ⟨env, .head _, h1⟩), h2, fun vs q => by rw [h3] at q; cases q⟩, FF.funFrames ⟨fun e he => x.fun_ e (.tail _ he), fun e he => x.fr e (.tail _ he)⟩ fun L' hL' => hb L' ?_⟩
   obtain ⟨e', he', hf'⟩ := List.mem_filterMap.mp hL'
   exact List.mem_filterMap.mpr ⟨e', .tail _ he', hf'⟩
theorem FF.up {h h' : Heap} {l : List Env} (x : FF h l) (k : ∀ L ∈ frs l, ∀ o, h.get? L = some o → ∃ sl, h'.get? L = some { o with slots := sl }) : FF h' l :=
 ⟨x.fun_, fun env he => let ⟨L, o, es, n, h1, h2, h3⟩ := x.fr env he; let ⟨sl, h4⟩ := k L (List.mem_filterMap.mpr ⟨env, he, h1⟩) o h2; ⟨L, _, es, n, h1, h4, h3⟩⟩
noncomputable def Flown : Ex → Heap → List Env → Addr → Heap → Prop
 | .own C x, B, l, e, h => ∃ t u, Heap.FlyingW B l e (.ref C) (.ref t) h ∧ h.TupAt t [.str x u] ∧ B.get? t = none
 | .lib, B, l, e, h => ∃ a0, Heap.FlyingW B l e (.type "ValueError") a0 h
 | .zde, B, l, e, h => ∃ t, Heap.FlyingW B l e (.type "ZeroDivisionError") (.ref t) h ∧ h.TupAt t [] ∧ B.get? t = none
structure Flew (G : Gd) (h₀ : Heap) (l : List Env) (ex : Ex) (e : Addr) (h : Heap) (B : Heap) : Prop where
 keep : ∀ b o, h₀.get? b = some o → b ∉ frs l → b ∉ tb → B.get? b = some o
 at_ : G.at B
 off : ∀ L ∈ frs l, B.get? L = none
 fl : Flown ex B l e h
 up : ∀ L ∈ frs l, ∀ o, h₀.get? L = some o → ∃ sl, h.get? L = some { o with slots := sl }
theorem at_hide {G : Gd} {h : Heap} {as : List Addr} (x : G.at h) (hd : ∀ a ∈ as, ∃ o es n, h.get? a = some o ∧ o.data = .dict es n) (h0 : ∀ b o, G.h₀.get? b = some o → b ∉ as) : G.at (hideAll h as) := by
 have nd : ∀ {a o vs}, h.get? a = some o → o.data = .fields vs → a ∉ as := fun {a o vs} e q hm => by
   obtain ⟨o', es, n, e', q'⟩ := hd a hm
   rw [e] at e'; cases e'; rw [q] at q'; cases q'
 refine ⟨fun b o e => hideAll_get _ (x.stay b o e) (h0 b o e), fun q hq => ?_⟩
 obtain ⟨ps, e, t, cc⟩ := x.tabs q hq
 refine ⟨ps, hideAll_get _ e (nd e rfl), t, fun pos cv hc => ?_⟩
 obtain ⟨c, o, vs, tt, e1, e2, e3, e4⟩ := cc pos cv hc
 exact ⟨c, o, vs, tt, e1, hideAll_get _ e2 (nd e2 e3), e3, e4⟩
theorem at_stays {G : Gd} {B h : Heap} (x : G.at B) (k : B.StaysIn h) : G.at h :=
 ⟨fun b o e => k b o (x.stay b o e), fun q hq => let ⟨ps, e, t, c⟩ := x.tabs q hq; ⟨ps, k _ _ e, t, fun pos cv hc => (c pos cv hc).keeps k⟩⟩
theorem fnx_call {rm : Nat} {f : Addr} {qual : Str} {params : Arguments} {body : List Stmt} {cs : Scope} {dV kV : Value} {pn : List Str} {m : Nat} {W : SWX} (B : FnRec f qual params body cs dV kV) (hS : SX rm cs body W) (T : TakesPos qual params body cs dV kV pn) (C : Plain cs pn m)
   {G : Gd} {s : Shared} {xs : List P} {ys : List Value} {A : Around} {l : List Env} {Q : Value → Shared → Prop} {E : Value → Shared → Prop} {Pr : P → Prop} {Pe : Ex → Prop} (hG : G.Ok) (ok : G.at s.heap) (hm : Rm (rm + 1) A) (hfr : A.frames = some l) (hFF : FF s.heap l) (h0 : ∀ b o, G.h₀.get? b = some o → b ∉ frs l)
   (hv : PVs (fun zz => True) s.heap xs ys) (hxl : xs.length = pn.length) (hW : W (St.of xs m) (fun fl σ => ∃ r, Pr r ∧ Outs r fl σ) Pe)
   (hQ : ∀ r y h' tk, Pr r → PV (fun b => s.heap.objs.size ≤ b) h' r y → Old tb s.heap h' → G.at h' → Q y { s with heap := h', toks := tk })
   (hE : ∀ ex e h' tk B, Pe ex → Flew G s.heap l ex e h' B → E (.ref e) { s with heap := h', toks := tk }) : wpC (model PG G.w) A (call (.ref f) ys) Q E s := by
 refine wpC_call (entryC B T C hG ok hm hv hxl fun h₁ tk cdv hΓ R hst hm' => ?_)
 refine hS G.off _ [] s _ [] _ _ _ Pe _ _ hG.off hΓ rfl hW R hm' (fun fl σ' ow' s' fw hPo R' g hf => ?_) fun ex σ' ow' s₁ h' tk' e hPe R' g hr => ?_
 · refine wg fun P' bk => ?_
   obtain ⟨r, hr, hPo⟩ := hPo
   have pv := outs_view R' hf hPo
   obtain ⟨h', tk, rfl⟩ := R'.sh
   refine bk ?_
   exact hQ r _ h' tk hr pv R'.old R'.ok.off
 · refine wg fun P' bk => ?_
   obtain ⟨h₂, tk₂, rfl⟩ := R'.sh
   have hl' : ∀ L ∈ frs l, L < s.heap.objs.size := fun L hL => by obtain ⟨o, es, n, e, _⟩ := hFF.mem hL; exact Heap.lt_size e
   obtain ⟨mm, ⟨oL, es, ep, eL, hdL, _⟩, _⟩ := R'.m
   have old : Old tb s.heap h₂ := R'.old
   have ok₂ : G.at h₂ := R'.ok.off
   have ntb : ∀ L ∈ frs l, L ∉ tb := fun L hL q => by
     obtain ⟨o, es, n, e, d⟩ := hFF.mem hL
     obtain ⟨vs, z⟩ := tab_data ok.tabs q e
     rw [d] at z; cases z
   have FF₂ : FF h₂ ((plainFi qual cs s.heap.objs.size f cdv).env :: l) := by
     refine ⟨fun env he => ?_, fun env he => ?_⟩
     · rcases List.mem_cons.mp he with rfl | he
       · show cs.kind ≠ .module; rw [C.k]; decide
       · exact hFF.fun_ env he
     · rcases List.mem_cons.mp he with rfl | he
       · exact ⟨s.heap.objs.size, oL, es, ep, rfl, eL, hdL⟩
       · obtain ⟨L, o, es, n, h1, h2, h3⟩ := hFF.fr env he
         exact ⟨L, o, es, n, h1, old L o (ntb L (List.mem_filterMap.mpr ⟨env, he, h1⟩)) h2, h3⟩
   refine bk ?_
   generalize hB : hideAll h₂ (frs ((plainFi qual cs s.heap.objs.size f cdv).env :: l)) = BB
   have hoff : ∀ L ∈ frs ((plainFi qual cs s.heap.objs.size f cdv).env :: l), BB.get? L = none := fun L hL => by rw [← hB]; exact hideAll_none _ hL
   have hstB : BB.StaysIn h₂ := fun b o e => by rw [← hB] at e; exact of_hideAll _ e
   have hmemf : ∀ {L}, L ∈ frs l → L ∈ frs ((plainFi qual cs s.heap.objs.size f cdv).env :: l) := fun {L} hL => by
     refine wg fun P' bk => ?_
     obtain ⟨e', he', hf'⟩ := List.mem_filterMap.mp hL
     refine bk ?_
     exact List.mem_filterMap.mpr ⟨e', .tail _ he', hf'⟩
   have hmem : ∀ {b}, b ∈ frs ((plainFi qual cs s.heap.objs.size f cdv).env :: l) → b = s.heap.objs.size ∨ b ∈ frs l := fun {b} hb => by
     refine wg fun P' bk => ?_
     obtain ⟨e', he', hf'⟩ := List.mem_filterMap.mp hb
     refine bk ?_
     rcases List.mem_cons.mp he' with rfl | he'
     · exact .inl (sij hf').symm
     · exact .inr (List.mem_filterMap.mpr ⟨e', he', hf'⟩)
   have hkeep : ∀ b o, s.heap.get? b = some o → b ∉ frs l → b ∉ tb → BB.get? b = some o := fun b o e h1 h2 => by
     rw [← hB]
     exact hideAll_get _ (old b o h2 e) fun q => (hmem q).elim (fun z => absurd (Heap.lt_size e) (by rw [z]; exact Nat.lt_irrefl _)) h1
   have hatB : G.at BB := by
     rw [← hB]
     exact at_hide ok₂ (fun a ha => FF₂.mem ha) fun b o e q => (hmem q).elim (fun z => absurd (Heap.lt_size (ok.stay b o e)) (by rw [z]; exact Nat.lt_irrefl _)) (h0 b o e)
   have FFun := FF₂.funFrames hoff
   have hfr' := Around.frames_deeper (env := (plainFi qual cs s.heap.objs.size f cdv).env) hfr
   have fin : ∀ h'' : Heap, Flown ex BB l e h'' → h₂.UpToSlots h'' → E (.ref e) { s with heap := h'', toks := tk' } := fun h'' fl up => by
     refine hE ex e h'' tk' BB hPe ⟨hkeep, hatB, fun L hL => hoff L (hmemf hL), fl, fun L hL o ho => ?_⟩
     refine wg fun P' bk => ?_
     obtain ⟨o', es, n, e', d⟩ := hFF.mem hL
     refine bk ?_
     rw [ho] at e'; obtain rfl := sij e'
     exact up L o (old L o (ntb L hL) ho) (fun vs q => by rw [d] at q; cases q)
   cases ex with
   | own C x =>
     refine wg fun P' bk => ?_
     obtain ⟨u, hmade⟩ := hr
     refine bk ?_
     refine wpAny_leaves_madeW (h := h₂) hfr' rfl hstB FFun hmade fun h'' t x1 x2 x3 x4 => ?_
     exact fin h'' ⟨t, u, x1, x2, x3⟩ ((Heap.UpToSlots.of_keeps hmade.keeps).trans x4)
   | zde =>
     have hmade : Heap.MadeExc h₂ h' e "ZeroDivisionError" [] := hr
     refine wpAny_leaves_madeW (h := h₂) hfr' rfl hstB FFun (Heap.MadeExc.of hmade) fun h'' t x1 x2 x3 x4 => ?_
     exact fin h'' ⟨t, x1, x2, x3⟩ ((Heap.UpToSlots.of_keeps hmade.keeps).trans x4)
   | lib =>
     refine wg fun P' bk => ?_
     obtain ⟨ob, tp, he, hcls, hd⟩ := hr.there
     have hen : BB.get? e = none := by
       cases q : BB.get? e with
       | none => rfl
       | some o => have := hstB _ _ q; rw [hr.new] at this; cases this
     refine bk ?_
     refine wpAny_leaving_firstW (base := BB) (a0 := tp) hfr' (FFun.of_keeps fun b o hb zz => ⟨o, hr.keeps b o hb, rfl⟩) rfl he (fun b o hb => hr.keeps b o (hstB b o hb)) hen hd rfl rfl fun h'' hL => ?_
     refine wg fun P' bk => ?_
     obtain ⟨k1, ⟨_, _, k2⟩, k3, k4⟩ := hL
     refine bk ?_
     exact fin h'' ⟨tp, k1, hen, k2, by rw [← hcls]; exact k3⟩ ((Heap.UpToSlots.of_keeps hr.keeps).trans k4)
noncomputable def W_parse229  : SWX := (xIf (cB (lift2 neP (cSS (cV 0) kNo (kInt (cK (.int 3)))) (cK (.str (Str.ofString "229"))))) 97 (cV 0) (xSeq (wSet 2 (findA (cV 0) (cCons (cK (.str (Str.ofString "("))) cNil))) (xIf (cB (lift2 ltP (cV 2) (cK (.int 0)))) 109 (cV 0) (xSeq (wSet 3 (findA (cV 0) (cCons (cK (.str (Str.ofString ")"))) (cCons (lift2 addP (cV 2) (cK (.int 1))) cNil)))) (xIf (cB (lift2 ltP (cV 3) (cK (.int 0)))) 109 (cV 0) (xIf (cB (lift2 neP (cSub (cV 0) (lift2 addP (cV 2) (cK (.int 1)))) (cSub (cV 0) (lift2 subP (cV 3) (cK (.int 1)))))) 109 (cV 0) (xSeq (wSet 4 (splitA (cSS (cV 0) (kInt (lift2 addP (cV 2) (cK (.int 1)))) (kInt (cV 3))) (cSub (cV 0) (lift2 addP (cV 2) (cK (.int 1)))))) (xIf (cB (lift2 neP (cApp lenA (cCons (cV 4) cNil)) (cK (.int 5)))) 109 (cV 0) (xSeq (wSet 5 (cSub (cV 1) (cK (.int 0)))) (xInt 6 (cSub (cV 4) (cK (.int 3))) (fun σ Po zz => (wSeq (wRet (cTup (cCons (cV 5) (cCons (cV 6) cNil)))) wNil) σ Po)))))))))))
theorem d_parse229 {rm : Nat}  : ∃ qual params body cs dV kV, FnRec 118 qual params body cs dV kV ∧ SX rm cs body (W_parse229 ) ∧ TakesPos qual params body cs dV kV [Str.ofString "resp", Str.ofString "peer"] ∧ Plain cs [Str.ofString "resp", Str.ofString "peer"] 9 :=
 ⟨_, _, _, _, _, _, ⟨fun w => ⟨_, _, _, _, _, _, _, _, _, by rfl, by kernel_rfl⟩⟩, (SX_if 7 (CT_cmp (ES_sslice (ES_var 0 rfl (.inl rfl) rfl) EP_none (EP_some ES_int) (fun zz zz => ⟨_, rfl⟩) (fun zz zz => rfl)) ES_str ok_ne rfl) cls_reply rfl (ES_var 0 rfl (.inl rfl) rfl) (fun zz => rfl) (SX_cons (S_set 2 rfl (.inl rfl) (ES_find (ES_var 0 rfl (.inl rfl) rfl) (ESs_cons ES_str ESs_nil (fun zz => rfl)) (MC_of rfl fun zz => rfl) (fun zz => rfl) (fun zz zz => rfl)) (fun zz zz => rfl)) (SX_if 8 (CT_cmp (ES_var 2 rfl (.inl rfl) rfl) ES_int ok_lt rfl) cls_proto rfl (ES_var 0 rfl (.inl rfl) rfl) (fun zz => rfl) (SX_cons (S_set 3 rfl (.inl rfl) (ES_find (ES_var 0 rfl (.inl rfl) rfl) (ESs_cons ES_str (ESs_cons (ES_bin (ES_var 2 rfl (.inl rfl) rfl) ES_int ok_add) ESs_nil (fun zz => rfl)) (fun zz => rfl)) (MC_of rfl fun zz => rfl) (fun zz => rfl) (fun zz zz => rfl)) (fun zz zz => rfl)) (SX_if 8 (CT_cmp (ES_var 3 rfl (.inl rfl) rfl) ES_int ok_lt rfl) cls_proto rfl (ES_var 0 rfl (.inl rfl) rfl) (fun zz => rfl) (SX_if 8 (CT_cmp (ES_sub (ES_var 0 rfl (.inl rfl) rfl) (ES_bin (ES_var 2 rfl (.inl rfl) rfl) ES_int ok_add) (fun zz zz => rfl)) (ES_sub (ES_var 0 rfl (.inl rfl) rfl) (ES_bin (ES_var 3 rfl (.inl rfl) rfl) ES_int ok_sub) (fun zz zz => rfl)) ok_ne rfl) cls_proto rfl (ES_var 0 rfl (.inl rfl) rfl) (fun zz => rfl) (SX_cons (S_set 4 rfl (.inl rfl) (ES_split (ES_sslice (ES_var 0 rfl (.inl rfl) rfl) (EP_some (ES_bin (ES_var 2 rfl (.inl rfl) rfl) ES_int ok_add)) (EP_some (ES_var 3 rfl (.inl rfl) rfl)) (fun zz zz => ⟨_, rfl⟩) (fun zz zz => rfl)) (ES_sub (ES_var 0 rfl (.inl rfl) rfl) (ES_bin (ES_var 2 rfl (.inl rfl) rfl) ES_int ok_add) (fun zz zz => rfl)) (MC_sub rfl fun zz => rfl) (fun zz => rfl)) (fun zz zz => rfl)) (SX_if 8 (CT_cmp (ES_callB 9 bn_len rfl (ESs_cons (ES_var 4 rfl (.inl rfl) rfl) ESs_nil (fun zz => rfl)) ok_len (fun zz => rfl) (fun zz zz => rfl)) ES_int ok_ne rfl) cls_proto rfl (ES_var 0 rfl (.inl rfl) rfl) (fun zz => rfl) (SX_cons (S_set 5 rfl (.inl rfl) (ES_sub (ES_var 1 rfl (.inl rfl) rfl) ES_int (fun zz zz => rfl)) (fun zz zz => rfl)) (SX_int 6 10 bn_int rfl (.inl rfl) rfl (ES_sub (ES_var 4 rfl (.inl rfl) rfl) ES_int (fun zz zz => rfl)) (fun zz => rfl) (fun zz zz => rfl) (SX_of (SS_cons (S_ret (ES_tup (ESs_cons (ES_var 5 rfl (.inl rfl) rfl) (ESs_cons (ES_var 6 rfl (.inl rfl) rfl) ESs_nil (fun zz => rfl)) (fun zz => rfl)))) SS_nil)))))))))))), (by exact takesK2 fun zz zz zz zz zz zz zz zz zz => BindsTo.of_eq rfl), ⟨rfl, by decide, by decide, rfl, rfl, rfl, rfl, by kernel_rfl⟩⟩
end Mine
end
section
open PySem PySem.W PySem.Calls PyProof.Rows
namespace Mine
open PySem.Builtin PySem.Builtin.Str PySem.Builtin.BaseException PySem.Builtin.Exceptions
structure OwnExc (K : Frag) (h : Heap) (e t : Addr) (C : Addr) (x : Str) (u : Tok) : Prop where
 X : K.In h
 o : ∃ oe vs, h.get? e = some oe ∧ oe.cls = .ref C ∧ oe.data = .fields vs ∧ vs[0]? = some (.ref t)
 tup : h.TupAt t [.str x u]
 s : findIn K (.ref C) (Str.ofString "__str__") = some (some (.builtin "BaseException.__str__"))
 b : subIn K (.ref C) (.type "BaseException") = some true
section
variable {prog : Program} {K : Frag} {w : World} {A : Around} {E : Value → Shared → Prop} {s : Shared} {e t C : Addr} {x : Str} {u : Tok}
theorem OwnExc.ty {M : Model} {h : Heap} (O : OwnExc K h e t C x u) : Looks M h (typeOf (.ref e)) (.ref C) := by
 obtain ⟨oe, vs, h1, h2, _⟩ := O.o
 intro A Q E s k q
 refine wpAny_bind (wpAny_loadPart (k _ _ h1) ?_)
 rw [h2]
 exact wpAny_pure q
theorem call_str_own {Q : Value → Shared → Prop} (O : OwnExc K s.heap e t C x u) (h : Q (.str x u) s) : wpAny (model prog w) A (call (.builtin "BaseException.__str__") [.ref e]) Q E s := by
 have FX := PySem.F.excStr_Exception
 refine wg fun P' bk => ?_
 obtain ⟨oe, vs, h1, h2, h3, h4⟩ := O.o
 obtain ⟨ot, k, hto, _, htd⟩ := O.tup
 have hk : builtinKind "BaseException.__str__" = some .slot := by decide +kernel
 have hsp : splitId "BaseException.__str__" = some ("BaseException", "__str__") := by decide +kernel
 refine bk ?_
 refine wpAny_call ?_
 with_reducible refine codeAny_call_builtin FX.str.plain F.entry_bexc_str ?_
 have hi : Looks (model prog w) s.heap (isInstance (.ref e) (.type "BaseException")) true := O.ty.andThen (looks_subIn O.X O.b)
 with_reducible refine check_slot hk hsp hi (F.args_bexc_str _) ?_
 dsimp only [Builtin.«BaseException.__str__»]
 have ba : ∀ {M : Model} {A : Around} {Q : Value × List Value → Shared → Prop}, Q (.ref t, [.str x u]) s → wpAny M A (bexcArgs (.ref e)) Q (fun e s' => E e s') s := fun {M A Q} hq => by
   dsimp only [bexcArgs]
   exact wpAny_bind (wpAny_field h1 h3 h4 (wpAny_bind (wpAny_seqItems hto htd (wpAny_pure hq))))
 repeat (first | with_reducible refine ba ?_ | wp_step)
 exact h
theorem strOf_own (hu : A.units < cLine) {Q : Value → Shared → Prop} (O : OwnExc K s.heap e t C x u) (h : Q (.str x u) s) : wpAny (model prog w) A (Builtin.Str.strOf (.ref e)) Q E s := by
 have FX := PySem.F.excStr_Exception
 have cs : ∀ {Q : Option Value → Shared → Prop}, Q (some (.str x u)) s → wpAny (model prog w) A (callSpecial? (.ref e) (Str.ofString "__str__")) Q E s := fun {Q} hq => by
   dsimp only [callSpecial?]
   refine wpAny_bind ((O.ty.andThen (looks_findIn O.X O.s)).here ?_)
   refine wpAny_holding (wpAny_bind (wpAny_of_eq (FX.str.bind _) ?_))
   exact wpAny_bind (call_str_own O (wpAny_pure hq))
 dsimp only [Builtin.Str.strOf]
 repeat (first | with_reducible refine wpAny_cRoomFor hu ?_ | with_reducible refine cs ?_ | wp_step)
 exact h
theorem str_own (hu : A.units + 2 < cLine) {Q : Value → Shared → Prop} (O : OwnExc K s.heap e t C x u) (h : Q (.str x u) s) : wpAny (model prog w) A (call (.type "str") [.ref e]) Q E s :=
 callType_new F.called_str (by decide) (F.typeCall_str_1 _) (F.newCall_str_1 _) (fun obj => F.args_object_init_2 obj _) F.entry_str_new
   (meets_str_new (S := fun A' R s' => A'.units + 1 < cLine ∧ OwnExc K s'.heap e t C x u ∧ R (.ok (.ret (.str x u))) s')
     fun zz zz A' zz zz hq => strOf_own (A := A'.in1) hq.1 hq.2.1 hq.2.2)
   ⟨(show A.units + 1 + 1 < cLine from hu), O, typeIs_str _ _ _, h⟩
end
end Mine
end
section
open PySem PySem.W PySem.Calls PyProof.Rows
namespace Mine
section
variable {G : Gd} {Γ : Fi} {mu : List Addr} {h₀ : Heap} {A : Around} {E : Value → Shared → Prop} {s : Shared} {B : Heap} {outer : List Env} {e : Addr} {cls a0 : Value}
theorem fl_ty {M : Model} {h : Heap} {l : List Env} (x : Heap.FlyingW B l e cls a0 h) : Looks M h (typeOf (.ref e)) cls := by
 obtain ⟨ob, ho, hc⟩ := x.there
 intro A Q E s k q
 refine wpAny_bind (wpAny_loadPart (k _ _ ho) ?_)
 rw [hc]
 exact wpAny_pure q
theorem caught {env : Env} {L : Addr} {hs : List ExceptHandler} {Q : Flow → Shared → Prop} (hfr : A.frames = some (env :: outer)) (hf : env.frame = some L) (fl : Heap.FlyingW B (env :: outer) e cls a0 s.heap)
   (k : ∀ h, Heap.FlyingW B (env :: outer) e cls a0 h → s.heap.UpToSlots h → wpAny (model PG G.w) A (handleBy (.ref e) env hs) Q E { s with heap := h }) :
   wpAny (model PG G.w) A (noteFrame (.ref e) env) (fun zz s₂ => wpAny (model PG G.w) A (setFlight (.ref e) none) (fun zz s₃ => wpAny (model PG G.w) A (handleBy (.ref e) env hs) Q E s₃) E s₂) E s :=
 wpAny_looks_onW hfr hf fl fun h₄ held up₄ => wpAny_landsW held fun h₅ fl₅ up₅ => k h₅ fl₅ (up₄.trans up₅)
theorem h_miss {env : Env} {t : PySem.Expr} {name : Option Str} {body : List Stmt} {pos : Pos} {rest : List ExceptHandler} {Q : Flow → Shared → Prop} {l : List Env} {c : Value} (X : (KF G.w).In s.heap) (fl : Heap.FlyingW B l e cls a0 s.heap) (hx : exmOne (KF G.w) cls c = some false)
   (hev : ∀ (A' : Around) (Q' : Value → Shared → Prop) (E' : Value → Shared → Prop), Q' c s → wpAny (model PG G.w) A' (eval t env) Q' E' s) (k : wpAny (model PG G.w) A (handleBy (.ref e) env rest) Q E s) :
   wpAny (model PG G.w) A (handleBy (.ref e) env (.ExceptHandler (some t) name body pos :: rest)) Q E s :=
 wpAny_handleBy_cons (codeAny_handlers_test (hev _ _ _ ((exm_one X (fl_ty fl) hx).here k))) (by intro q; cases q)
theorem h_hit {env : Env} {t : PySem.Expr} {b₀ : Stmt} {suite : List Stmt} {pos : Pos} {rest : List ExceptHandler} {Q : Flow → Shared → Prop} {l : List Env} {c : Value} (X : (KF G.w).In s.heap) (fl : Heap.FlyingW B l e cls a0 s.heap) (hx : exmOne (KF G.w) cls c = some true)
   (hev : ∀ (A' : Around) (Q' : Value → Shared → Prop) (E' : Value → Shared → Prop), Q' c s → wpAny (model PG G.w) A' (eval t env) Q' E' s)
   (k : ∀ h, Heap.FlyingW B l e cls a0 h → s.heap.UpToSlots h → wpAny (model PG G.w) (A.mark (some (.ref e))) (execs (b₀ :: suite) env) Q NoE { s with heap := h }) :
   wpAny (model PG G.w) A (handleBy (.ref e) env (.ExceptHandler (some t) none (b₀ :: suite) pos :: rest)) Q E s :=
 wpAny_handleBy_cons (codeAny_handlers_test (hev _ _ _ ((exm_one X (fl_ty fl) hx).here (codeAny_handlers_suite (lands_againW fl fun h fl' up => wpAny_mono (k h fl' up) (fun zz zz q => q) fun zz zz q => q.elim))))) (by intro q; cases q)
theorem h_hit_as {env : Env} {L : Addr} {t : PySem.Expr} {n : Str} {b₀ : Stmt} {suite : List Stmt} {pos : Pos} {rest : List ExceptHandler} {Q : Flow → Shared → Prop} {l : List Env} {c : Value} (X : (KF G.w).In s.heap) (fl : Heap.FlyingW B l e cls a0 s.heap) (hx : exmOne (KF G.w) cls c = some true)
   (hev : ∀ (A' : Around) (Q' : Value → Shared → Prop) (E' : Value → Shared → Prop), Q' c s → wpAny (model PG G.w) A' (eval t env) Q' E' s)
   (k : ∀ h, Heap.FlyingW B l e cls a0 h → s.heap.UpToSlots h → wpAny (model PG G.w) (A.mark (some (.ref e))) (storeName env n (.ref e)) (fun zz s₂ => wpAny (model PG G.w) (A.mark (some (.ref e))) (execs (b₀ :: suite) env)
     (fun f s₃ => wpAny (model PG G.w) A (do bindName env n .none; unbindBehindTheSuite env n pos) (fun zz s₄ => Q f s₄) E s₃) NoE s₂) NoE { s with heap := h }) :
   wpAny (model PG G.w) A (handleBy (.ref e) env (.ExceptHandler (some t) (some n) (b₀ :: suite) pos :: rest)) Q E s := by
 refine wpAny_handleBy_cons (codeAny_handlers_test (hev _ _ _ ((exm_one X (fl_ty fl) hx).here (codeAny_handlers_suite_as (lands_againW fl fun h fl' up => ?_))))) (by intro q; cases q)
 exact wpAny_mono (k h fl' up) (fun zz s₂ q => wpAny_mono q (fun f s₃ q => q) fun zz zz q => q.elim) fun zz zz q => q.elim
end
structure Turned (G : Gd) (h₀ : Heap) (l : List Env) (h : Heap) : Prop where
 keep : ∀ b o, h₀.get? b = some o → b ∉ frs l → b ∉ tb → h.get? b = some o
 at_ : G.at h
 up : ∀ L ∈ frs l, ∀ o, h₀.get? L = some o → ∃ sl, h.get? L = some { o with slots := sl }
theorem Turned.of_old {G : Gd} {h₀ h : Heap} {l : List Env} (o : Old tb h₀ h) (ok : G.at h) (hF : FF h₀ l) (ok₀ : G.at h₀) : Turned G h₀ l h :=
 ⟨fun b ob e zz n => o b ob n e, ok, fun L hL ob e => by
   refine wg fun P' bk => ?_
   obtain ⟨o', es, n, e', d⟩ := hF.mem hL
   refine bk ?_
   rw [e] at e'; obtain rfl := sij e'
   exact ⟨ob.slots, o.data ok₀.tabs e (by rw [d]; nofun)⟩⟩
section
variable {G : Gd} {A : Around} {s : Shared}
theorem suite_str {Γ : Fi} {mu : List Addr} {h₀ : Heap} {m : Str → Option Value} {n : Str} {i j : Nat} {e t C : Addr} {x tc : Str} {u : Tok} {k : Nat} {p1 p2 p3 p4 p5 p6 : Pos} {Q : Flow → Shared → Prop} (hG : G.Ok) (hΓ : Γ.Ok G mu h₀) (ok : G.at s.heap) (hu : A.units + 2 < cLine) (hns : s.heap.Ns Γ.L m) (hm : m n = some (.ref e))
   (hi : Γ.cs.names[i]? = some (Str.ofString "str", .globalImplicit)) (hj : Γ.cs.names[j]? = some (n, .local)) (hnd : (n == ("__debug__" : Str)) = false) (O : OwnExc (KF G.w) s.heap e t C x u)
   (hQ : ∀ tk, Q (.ret (.ref s.heap.objs.size)) { s with heap := s.heap.push { cls := .type "list", data := .seq (List.toArray [.str tc s.toks, .str x u]) }, toks := tk }) :
   wpAny (model PG G.w) A (execs [.Return (some (.List [.Constant (.str tc) k p1, .Call (.Name (Str.ofString "str") p2) [.Name n p3] [] p4] p5)) p6] Γ.env) Q NoE s := by
 refine wpAny_execs_cons (wpAny_Return_some ?_)
 refine List_ ?_
 refine spliced_more ?_ rfl
 refine Calls.Constant_str ?_
 refine spliced_more ?_ rfl
 refine wpAny_Call_NameR (name_B i bn_str hG hΓ hi (s := { s with toks := s.toks + 1 }) ok ?_)
 refine PyProof.Rows.callWith_type1 ?_ rfl rfl
 refine spliced_more ?_ rfl
 refine wpAny_Name (wpAny_loadName_local hΓ.fn (hΓ.kind hj) hns hm ?_) hnd
 refine spliced_none ?_
 refine str_own hu (s := { s with toks := s.toks + 1 }) O ?_
 refine spliced_none ?_
 refine wpAny_newList ?_ (by rw [sizeLine_eq]; simp)
 exact hQ _
end
section
variable {prog : Program} {w : World} {A : Around} {E : Value → Shared → Prop} {s : Shared} {env : Env}
theorem wpC_keep {α : Type} {t : Sem α} {vs : List Value} {Q : α → Shared → Prop} (h : wpC (model prog w) A t Q E s) : wpC (model prog w) A (t.keep vs) Q E s := fun Γ p hΓ z => by
 rw [Sem.wp_keep]; exact h Γ p hΓ z
theorem wpC_callWith_def {pos : Pos} {f : Addr} {o : Obj} {fd : FuncData} {args : List (Bool × Sem Value)} {Q : Value → Shared → Prop} (hplain : args.any (·.1) = false) (hlen : args.length ≤ 30) (hdat : o.data = .func fd)
   (h : wpAny (model prog w) A (evalArgs (.ref f) true args []) (fun x s₁ => s₁.heap.get? f = some o ∧ wpC (model prog w) A (call (.ref f) x.pos x.kw) Q E s₁) E s) : wpC (model prog w) A (callWith pos (.ref f) [] args []) Q E s := by
 delta callWith; dsimp only
 refine wpC_bind (wpC_holding (wpC_mono (wpC_of h) (fun x s₁ h₁ => ?_) fun zz zz e => e))
 refine wpC_bind (wpC_standAt ?_)
 rw [hplain]
 refine wpC_bind (m := keeperOf (.ref f)) (wpC_of ?_)
 dsimp only [keeperOf]
 refine wpAny_bind (wpAny_load h₁.1 ?_)
 rw [hdat]
 refine wpAny_pure ?_
 have hl : ¬ (args.length + 2 * ([] : List (Option Str × Sem Value)).length > 30) := by simpa using hlen
 have tail : ∀ {t : Sem Value}, wpC (model prog w) A t Q E s₁ → wpC (model prog w) A (t >>= fun r => holding [r] point >>= fun zz => pure r) Q E s₁ := fun ht =>
   wpC_bind (wpC_mono ht (fun r s₂ hr => wpC_bind (wpC_holding (wpC_of (wpAny_point (wpC_pure hr))))) fun zz zz e => e)
 show wpC _ A (if args.length + 2 * ([] : List (Option Str × Sem Value)).length > 30 then _ else _) _ _ _
 rw [if_neg hl]
 exact tail (by dsimp only [callMarked]; exact wpC_keep h₁.2)
end
noncomputable def resEx (x : Str) : Ex → Option P
 | .own C z => if C = 97 then some (.lst [.str (Str.ofString "reply"), .str z]) else if C = 109 then some (.lst [.str (Str.ofString "proto"), .str z]) else none
 | .lib => some (.lst [.str (Str.ofString "number"), .str x])
 | .zde => none
structure PortDef (qual : Str) (params : Arguments) (body : List Stmt) (cs : Scope) (dV kV : Value) : Prop where
 B : FnRec 125 qual params body cs dV kV
 T : TakesPos qual params body cs dV kV [Str.ofString "reply"]
 C : Plain cs [Str.ofString "reply"] 6
 n : cs.names = [(Str.ofString "reply", .local), (Str.ofString "error", .local), (Str.ofString "parse229", .globalImplicit), (Str.ofString "error_reply", .globalImplicit), (Str.ofString "str", .globalImplicit), (Str.ofString "error_proto", .globalImplicit), (Str.ofString "ValueError", .globalImplicit)]
 body : body = [.Try [.Return (some (.Call (.Name (Str.ofString "parse229") ⟨130,15,130,23⟩) [.Name (Str.ofString "reply") ⟨130,24,130,29⟩, .Tuple [.Constant (.str (Str.ofString "peer")) 0 ⟨130,32,130,38⟩, .Constant (.int 21) 0 ⟨130,40,130,42⟩] 0 ⟨130,31,130,43⟩] [] ⟨130,15,130,44⟩)) ⟨130,8,130,44⟩]
   [.ExceptHandler (some (.Name (Str.ofString "error_reply") ⟨131,11,131,22⟩)) (some (Str.ofString "error")) [.Return (some (.List [.Constant (.str (Str.ofString "reply")) 0 ⟨132,16,132,23⟩, .Call (.Name (Str.ofString "str") ⟨132,25,132,28⟩) [.Name (Str.ofString "error") ⟨132,29,132,34⟩] [] ⟨132,25,132,35⟩] ⟨132,15,132,36⟩)) ⟨132,8,132,36⟩] ⟨131,4,132,36⟩,
    .ExceptHandler (some (.Name (Str.ofString "error_proto") ⟨133,11,133,22⟩)) (some (Str.ofString "error")) [.Return (some (.List [.Constant (.str (Str.ofString "proto")) 0 ⟨134,16,134,23⟩, .Call (.Name (Str.ofString "str") ⟨134,25,134,28⟩) [.Name (Str.ofString "error") ⟨134,29,134,34⟩] [] ⟨134,25,134,35⟩] ⟨134,15,134,36⟩)) ⟨134,8,134,36⟩] ⟨133,4,134,36⟩,
    .ExceptHandler (some (.Name (Str.ofString "ValueError") ⟨135,11,135,21⟩)) none [.Return (some (.List [.Constant (.str (Str.ofString "number")) 0 ⟨136,16,136,24⟩, .Name (Str.ofString "reply") ⟨136,26,136,31⟩] ⟨136,15,136,32⟩)) ⟨136,8,136,32⟩] ⟨135,4,136,32⟩] [] [] ⟨129,4,136,32⟩]
theorem d_port : ∃ qual params body cs dV kV, PortDef qual params body cs dV kV :=
 ⟨_, _, _, _, _, _, ⟨fun w => ⟨_, _, _, _, _, _, _, _, _, by rfl, by kernel_rfl⟩⟩, (by exact takesK1 fun zz zz zz zz zz zz zz zz => BindsTo.of_eq rfl), ⟨rfl, by decide, by decide, rfl, rfl, rfl, rfl, by kernel_rfl⟩, rfl, rfl⟩
theorem bn_ValueError : Bn (Str.ofString "ValueError") (.type "ValueError") := .of (fun w => by kernel_rfl) (by kernel_rfl) (by kernel_rfl) (by kernel_rfl)
theorem ex1 (w : World) : exmOne (KF w) (.ref 97) (.ref 97) = some true := by kernel_rfl
theorem ex2 (w : World) : exmOne (KF w) (.ref 109) (.ref 97) = some false := by kernel_rfl
theorem ex3 (w : World) : exmOne (KF w) (.ref 109) (.ref 109) = some true := by kernel_rfl
theorem ex4 (w : World) : exmOne (KF w) (.type "ValueError") (.ref 97) = some false := by kernel_rfl
theorem ex5 (w : World) : exmOne (KF w) (.type "ValueError") (.ref 109) = some false := by kernel_rfl
theorem ex6 (w : World) : exmOne (KF w) (.type "ValueError") (.type "ValueError") = some true := by kernel_rfl
theorem st1 (w : World) : findIn (KF w) (.ref 97) (Str.ofString "__str__") = some (some (.builtin "BaseException.__str__")) := by kernel_rfl
theorem st2 (w : World) : findIn (KF w) (.ref 109) (Str.ofString "__str__") = some (some (.builtin "BaseException.__str__")) := by kernel_rfl
theorem sb1 (w : World) : subIn (KF w) (.ref 97) (.type "BaseException") = some true := by kernel_rfl
theorem sb2 (w : World) : subIn (KF w) (.ref 109) (.type "BaseException") = some true := by kernel_rfl
structure Mid (B : Heap) (h₀ : Heap) (l : List Env) (L : Addr) (h : Heap) : Prop where
 st : B.StaysIn h
 up : ∀ L' ∈ frs l, ∀ o, h₀.get? L' = some o → ∃ sl, h.get? L' = some { o with slots := sl }
 lt : L < h.objs.size
theorem Mid.slots {B h₀ h h' : Heap} {l : List Env} {L : Addr} (x : Mid B h₀ l L h) (hF : FF h₀ l) (st : B.StaysIn h') (u : h.UpToSlots h') (hL : ∃ o, h'.get? L = some o) : Mid B h₀ l L h' :=
 ⟨st, fun L' hL' o e => by
   refine wg fun P' bk => ?_
   obtain ⟨sl, e1⟩ := x.up L' hL' o e
   obtain ⟨o', es, n, e2, d⟩ := hF.mem hL'
   refine bk ?_
   rw [e] at e2; obtain rfl := sij e2
   obtain ⟨sl', e3⟩ := u L' _ e1 (fun vs q => by rw [show ({ o with slots := sl } : Obj).data = o.data from rfl, d] at q; cases q)
   exact ⟨sl', e3⟩, by obtain ⟨o, e⟩ := hL; exact Heap.lt_size e⟩
theorem Mid.same {B h₀ h h' : Heap} {l : List Env} {L : Addr} (x : Mid B h₀ l L h) (hB : B.get? L = none) (hl : ∀ L' ∈ frs l, L' ≠ L) (s : Heap.SameBut L h h') : Mid B h₀ l L h' :=
 ⟨fun b o e => (s.2 b fun z => by subst z; rw [hB] at e; cases e).trans (x.st b o e), fun L' hL' o e => let ⟨sl, e1⟩ := x.up L' hL' o e; ⟨sl, (s.2 L' (hl L' hL')).trans e1⟩, by rw [s.1]; exact x.lt⟩
theorem Mid.push {B h₀ h : Heap} {l : List Env} {L : Addr} (x : Mid B h₀ l L h) (ob : Obj) : Mid B h₀ l L (h.push ob) :=
 ⟨fun b o e => Heap.get?_push_of_some _ (x.st b o e), fun L' hL' o e => let ⟨sl, e1⟩ := x.up L' hL' o e; ⟨sl, Heap.get?_push_of_some _ e1⟩, by rw [Heap.size_push]; exact Nat.lt_succ_of_lt x.lt⟩
theorem port_call {rm : Nat} {qual : Str} {params : Arguments} {body : List Stmt} {cs : Scope} {dV kV : Value} (D : PortDef qual params body cs dV kV)
   {G : Gd} {s : Shared} {x : Str} {t : Tok} {A : Around} {l : List Env} {Q : Value → Shared → Prop} {r : P} (hG : G.Ok) (ok : G.at s.heap) (hm : Rm (rm + 2) A) (hfr : A.frames = some l) (hFF : FF s.heap l) (h0 : ∀ b o, G.h₀.get? b = some o → b ∉ frs l)
   (hW : W_parse229 (St.of [.str x, .tup [.str (Str.ofString "peer"), .int 21]] 9) (fun fl σ => Outs r fl σ) (fun ex => resEx x ex = some r))
   (hQ : ∀ y h' tk, PV (fun b => s.heap.objs.size ≤ b) h' r y → Turned G s.heap l h' → Q y { s with heap := h', toks := tk }) : wpC (model PG G.w) A (call (.ref 125) [.str x t]) Q NoE s := by
 obtain rfl := D.body
 refine wpC_call (entryC D.B D.T D.C hG ok hm (xs := [.str x]) ⟨_, _, rfl, ⟨t, rfl⟩, rfl⟩ rfl fun h₁ tk cdv hΓ R hst hm' => ?_)
 generalize hL1 : s.heap.objs.size = L1 at hΓ R hm' ⊢
 generalize hΓe : plainFi qual cs L1 125 cdv = Γ at hΓ R hm' ⊢
 have hcs : Γ.cs = cs := by rw [← hΓe]
 have hLΓ : Γ.L = L1 := by rw [← hΓe]
 have hfΓ : Γ.env.frame = some L1 := by rw [← hΓe]
 have nm : ∀ {i : Nat} {y : Str} {k : NameKind}, cs.names[i]? = some (y, k) → Γ.cs.names[i]? = some (y, k) := fun h => by rw [hcs]; exact h
 have n0 : cs.names[0]? = some (Str.ofString "reply", .local) := by rw [D.n]; rfl
 have n1 : cs.names[1]? = some (Str.ofString "error", .local) := by rw [D.n]; rfl
 have n2 : cs.names[2]? = some (Str.ofString "parse229", .globalImplicit) := by rw [D.n]; rfl
 have n3 : cs.names[3]? = some (Str.ofString "error_reply", .globalImplicit) := by rw [D.n]; rfl
 have n4 : cs.names[4]? = some (Str.ofString "str", .globalImplicit) := by rw [D.n]; rfl
 have n5 : cs.names[5]? = some (Str.ofString "error_proto", .globalImplicit) := by rw [D.n]; rfl
 have n6 : cs.names[6]? = some (Str.ofString "ValueError", .globalImplicit) := by rw [D.n]; rfl
 have hls : ∀ L ∈ frs l, L ≠ L1 := fun L hL z => by
   refine wg fun P' bk => ?_
   obtain ⟨o, es, n, e, _⟩ := hFF.mem hL
   have := Heap.lt_size e
   refine bk ?_
   rw [hL1] at this; exact absurd z (Nat.ne_of_lt this)
 refine wpC_execs_cons (wpC_Try ?_)
 refine wpC_execs_cons (wpC_Return_some (wpC_Call_Name (wpC_of (name_G (G := G.off) 2 fk_parse229.n hG.off hΓ (nm n2) R.ok ?_))))
 refine wg fun P' bk => ?_
 obtain ⟨of, fd, hof, hdf⟩ := fk_parse229.o G.w
 have hs : ESs (rm + 1) cs [.Name (Str.ofString "reply") ⟨130,24,130,29⟩, .Tuple [.Constant (.str (Str.ofString "peer")) 0 ⟨130,32,130,38⟩, .Constant (.int 21) 0 ⟨130,40,130,42⟩] 0 ⟨130,31,130,43⟩] (cCons (cV 0) (cCons (cTup (cCons (cK (.str (Str.ofString "peer"))) (cCons (cK (.int 21)) cNil))) cNil)) :=
   ESs_cons (ES_var 0 n0 (.inl rfl) rfl) (ESs_cons (ES_tup (ESs_cons ES_str (ESs_cons ES_int ESs_nil (fun zz => rfl)) (fun zz => rfl))) ESs_nil (fun zz => rfl)) (fun zz => rfl)
 refine bk ?_
 refine wpC_callWith_def (o := of) (fd := fd) rfl (Nat.le_of_ble_eq_true rfl) hdf (Calls.evalArgs_plain (wpAny_mono (E := NoE) (hs G.off Γ [] s _ [] _ [.p (.str x), .p (.tup [.str (Str.ofString "peer"), .int 21])] _ ⟨130,15,130,44⟩ _ hG.off hΓ hcs rfl R hm' fun ys s₂ rs R₂ o₂ => ?_) (fun zz zz h => h) fun zz zz h => h.elim))
 refine ⟨R₂.ok.stay _ _ (hG.X _ _ hof), ?_⟩
 have pv := toPs_view R₂ rs (show toPs _ _ = some [.str x, .tup [.str (Str.ofString "peer"), .int 21]] from rfl)
 refine wg fun P' bk => ?_
 obtain ⟨qual', params', body', cs', dV', kV', B', S', T', C'⟩ := d_parse229 (rm := rm)
 have old : Old tb s.heap s₂.heap := R₂.old
 have hfr' := Around.frames_deeper (env := Γ.env) hfr
 obtain ⟨m, hns, hmv⟩ := R₂.m
 obtain ⟨oL, esL, epL, eL, hdL, _⟩ := id hns
 rw [hLΓ] at hns eL
 have hrep : ∃ u, m (Str.ofString "reply") = some (.str x u) := by
   obtain ⟨y, e, vy⟩ := hmv 0 _ (.p (.str x)) (nm n0) rfl
   obtain ⟨u, rfl⟩ := vy
   exact ⟨u, e⟩
 have ntb : ∀ L ∈ frs l, L ∉ tb := fun L hL q => by
   obtain ⟨o, es, n, e, d⟩ := hFF.mem hL
   obtain ⟨vs, z⟩ := tab_data ok.tabs q e
   rw [d] at z; cases z
 have FF₂ : FF s₂.heap (Γ.env :: l) := by
   refine ⟨fun env he => ?_, fun env he => ?_⟩
   · rcases List.mem_cons.mp he with rfl | he
     · show Γ.cs.kind ≠ .module; rw [hcs, D.C.k]; decide
     · exact hFF.fun_ env he
   · rcases List.mem_cons.mp he with rfl | he
     · exact ⟨L1, oL, esL, epL, hfΓ, eL, hdL⟩
     · obtain ⟨L, o, es, n, h1, h2, h3⟩ := hFF.fr env he
       exact ⟨L, o, es, n, h1, old L o (ntb L (List.mem_filterMap.mpr ⟨env, he, h1⟩)) h2, h3⟩
 have hmem : ∀ {b}, b ∈ frs (Γ.env :: l) → b = L1 ∨ b ∈ frs l := fun {b} hb => by
   obtain ⟨e', he', hf'⟩ := List.mem_filterMap.mp hb
   rcases List.mem_cons.mp he' with rfl | he'
   · rw [hfΓ] at hf'; exact .inl (sij hf').symm
   · exact .inr (List.mem_filterMap.mpr ⟨e', he', hf'⟩)
 have memL : L1 ∈ frs (Γ.env :: l) := List.mem_filterMap.mpr ⟨Γ.env, .head _, hfΓ⟩
 have meml : ∀ {L}, L ∈ frs l → L ∈ frs (Γ.env :: l) := fun {L} hL => by
   obtain ⟨e', he', hf'⟩ := List.mem_filterMap.mp hL
   exact List.mem_filterMap.mpr ⟨e', .tail _ he', hf'⟩
 obtain ⟨h₂, tk₂, rfl⟩ := R₂.sh
 have hz : s.heap.objs.size ≤ h₂.objs.size := by rw [hL1]; exact Nat.le_of_lt (Heap.lt_size eL)
 refine bk ?_
 refine fnx_call (G := G.off) (rm := rm) (Pr := (· = r)) (Pe := fun ex => resEx x ex = some r) B' S' T' C' hG.off R₂.ok hm'.toRm hfr' FF₂ (fun b o e q => ?_) pv rfl ?_ ?_ ?_
 · rcases hmem q with z | z
   · have := Heap.lt_size (ok.stay b o e); rw [hL1] at this; exact absurd z (Nat.ne_of_lt this)
   · exact h0 b o e z
 · have e : (fun fl σ => ∃ r', r' = r ∧ Outs r' fl σ) = fun fl σ => Outs r fl σ := by
     funext fl σ
     exact propext ⟨fun ⟨_, h, q⟩ => h ▸ q, fun h => ⟨_, rfl, h⟩⟩
   rw [e]; exact hW
 · rintro r' y h' tk' rfl py o' ok'
   exact hQ y h' tk' (py.mono (fun b o e zz zz => e) fun b o e k => Nat.le_trans hz k) (Turned.of_old (old.trans o') ok'.off hFF ok)
 · intro ex e h' tk' B hPe fl
   have hBL : B.get? L1 = none := fl.off L1 memL
   have atB : G.at B := fl.at_.off
   have fin : ∀ hh tk v, Mid B s.heap l L1 hh → PV (fun b => s.heap.objs.size ≤ b) hh r v → Q v { s with heap := hh, toks := tk } := fun hh tk v M pv => by
     refine hQ v hh tk pv ⟨fun b o e h1 h2 => ?_, at_stays atB M.st, M.up⟩
     refine M.st b o (fl.keep b o (old b o h2 e) (fun q => ?_) h2)
     rcases hmem q with z | z
     · have := Heap.lt_size e; rw [hL1] at this; exact absurd z (Nat.ne_of_lt this)
     · exact h1 z
   have M0 : ∀ st : B.StaysIn h', Mid B s.heap l L1 h' := fun st => ⟨st, fun L hL o e => fl.up L (meml hL) o (old L o (ntb L hL) e), by
     refine wg fun P' bk => ?_
     obtain ⟨sl, e1⟩ := fl.up L1 memL oL eL
     refine bk ?_
     exact Heap.lt_size e1⟩
   have ns' : h'.Ns L1 m := by
     obtain ⟨o, es, ep, ho, hd, rr⟩ := hns
     obtain ⟨sl, e1⟩ := fl.up L1 memL o ho
     exact ⟨_, es, ep, e1, hd, rr⟩
   have hpc : (Γ.env.scope.kind == .class || (Γ.env.scope.kind == .module && Γ.env.locals != Γ.env.globals)) = false := by
     show (Γ.cs.kind == .class || (Γ.cs.kind == .module && _)) = false; rw [hcs, D.C.k]; rfl
   have stB : B.StaysIn h' := by
     cases ex with
     | own C' x' => obtain ⟨_, _, f, _⟩ := fl.fl; exact f.1
     | lib => obtain ⟨_, f⟩ := fl.fl; exact f.1
     | zde => obtain ⟨_, f, _⟩ := fl.fl; exact f.1
   have k_as : ∀ {C : Addr} {z tc : Str} {t' : Addr} {u : Tok} {kk : Nat} {a1 a2 a3 a4 a5 a6 a7 : Pos} {h6 : Heap} {QQ : Flow → Shared → Prop} {EE : Value → Shared → Prop}, Heap.FlyingW B (Γ.env :: l) e (.ref C) (.ref t') h6 → h'.UpToSlots h6 → h6.TupAt t' [.str z u] →
       findIn (KF G.w) (.ref C) (Str.ofString "__str__") = some (some (.builtin "BaseException.__str__")) → subIn (KF G.w) (.ref C) (.type "BaseException") = some true → r = .lst [.str tc, .str z] → (∀ v s', Q v s' → QQ (.ret v) s') →
       wpAny (model PG G.w) ((A.deeper Γ.env).mark (some (.ref e))) (storeName Γ.env (Str.ofString "error") (.ref e)) (fun zz s₂ => wpAny (model PG G.w) ((A.deeper Γ.env).mark (some (.ref e)))
         (execs [.Return (some (.List [.Constant (.str tc) kk a1, .Call (.Name (Str.ofString "str") a2) [.Name (Str.ofString "error") a3] [] a4] a5)) a6] Γ.env)
         (fun f s₃ => wpAny (model PG G.w) (A.deeper Γ.env) (do bindName Γ.env (Str.ofString "error") .none; unbindBehindTheSuite Γ.env (Str.ofString "error") a7) (fun zz s₄ => QQ f s₄) EE s₃) NoE s₂) NoE { s with heap := h6, toks := tk' } := by
     intro C z tc t' u kk a1 a2 a3 a4 a5 a6 a7 h6 QQ EE fl6 up6 tup6 hst' hsb' hr hqq
     have ns6 : h6.Ns Γ.L m := by rw [hLΓ]; exact up6.ns ns'
     have M6 : Mid B s.heap l L1 h6 := (M0 stB).slots hFF fl6.1 up6 (by obtain ⟨o, es, ep, ho, _⟩ := (hLΓ ▸ ns6 : h6.Ns L1 m); exact ⟨o, ho⟩)
     refine wpAny_storeName_local (hΓ.kind (nm n1)) ns6 (fun h7 hn7 hs7 => ?_) hpc
     rw [show Γ.env.locals = L1 from hLΓ] at hs7
     have M7 := M6.same hBL hls hs7
     refine wg fun P' bk => ?_
     obtain ⟨oe, vs, e1, e2, e3, e4⟩ := fl6.first
     obtain ⟨oL6, esL6, epL6, eL6, hdL6, _⟩ := id (hLΓ ▸ ns6 : h6.Ns L1 m)
     have ne : e ≠ L1 := fun zz => by subst zz; rw [e1] at eL6; cases eL6; rw [e3] at hdL6; cases hdL6
     have nt : t' ≠ L1 := fun zz => by
       obtain ⟨ot, n, ho, hc, hd⟩ := tup6
       subst zz; rw [ho] at eL6; cases eL6; rw [hd] at hdL6; cases hdL6
     have at7 : G.off.at h7 := Gd.at.of (at_stays atB M7.st)
     have O : OwnExc (KF G.w) h7 e t' C z u := ⟨fun p o q => at7.stay p o (hG.X p o q), ⟨oe, vs, (hs7.2 e ne).trans e1, e2, e3, e4⟩, (let ⟨ot, n, ho, r⟩ := tup6; ⟨ot, n, (hs7.2 t' nt).trans ho, r⟩), hst', hsb'⟩
     refine bk ?_
     refine suite_str (G := G.off) (i := 4) (j := 1) hG.off hΓ at7 (by have := hm'.un; show (A.deeper Γ.env).units + 2 < cLine; lia) hn7 (if_pos rfl) (nm n4) (nm n1) rfl O fun tk3 => ?_
     refine wpAny_nameGoes_keeps (hΓ.kind (nm n1)) (hn7.keeps fun b o q => Heap.get?_push_of_some _ q) hpc fun h9 v hn9 hs9 => ?_
     rw [show Γ.env.locals = L1 from hLΓ] at hs9
     refine hqq _ _ (fin h9 _ _ ((M7.push _).same hBL hls hs9) ?_)
     rw [hr]
     have hD : h7.objs.size ≠ L1 := Nat.ne_of_gt M7.lt
     exact ⟨_, _, rfl, by rw [hL1]; exact Nat.le_of_lt M7.lt, ⟨_, (hs9.2 _ hD).trans (Heap.get?_push_size _ rfl), rfl, _, rfl⟩, _, _, rfl, ⟨_, rfl⟩, _, _, rfl, ⟨_, rfl⟩, rfl⟩
   have inAt : ∀ {hh : Heap}, B.StaysIn hh → (KF G.w).In hh ∧ G.off.at hh := fun st => ⟨fun p o q => (at_stays atB st).stay p o (hG.X p o q), Gd.at.of (at_stays atB st)⟩
   cases ex with
   | own C z =>
     refine wg fun P' bk => ?_
     obtain ⟨t', u, flw, htup, hnt⟩ := fl.fl
     refine bk ?_
     refine caught (G := G) hfr' hfΓ flw fun h5 fl5 up5 => ?_
     refine wg fun P' bk => ?_
     obtain ⟨X5, at5⟩ := inAt fl5.1
     refine bk ?_
     by_cases h97 : C = 97
     · subst h97
       have hr : r = .lst [.str (Str.ofString "reply"), .str z] := by
         have : some _ = some r := hPe
         exact (sij this).symm
       refine h_hit_as (G := G) (L := L1) (s := { s with heap := h5, toks := tk' }) X5 fl5 (ex1 _) (fun A' Q' E' q => name_G (G := G.off) 3 cls_reply.g hG.off hΓ (nm n3) at5 q) fun h6 fl6 up6 => ?_
       exact k_as fl6 (up5.trans up6) ((htup.of_slots up5).of_slots up6) (st1 _) (sb1 _) hr fun v s' q => q
     · have h109 : C = 109 := by
         by_cases h : C = 109
         · exact h
         · have : (if C = 97 then _ else if C = 109 then _ else none) = some r := hPe
           rw [if_neg h97, if_neg h] at this; cases this
       subst h109
       have hr : r = .lst [.str (Str.ofString "proto"), .str z] := by
         have : some _ = some r := hPe
         exact (sij this).symm
       refine h_miss (G := G) (s := { s with heap := h5, toks := tk' }) X5 fl5 (ex2 _) (fun A' Q' E' q => name_G (G := G.off) 3 cls_reply.g hG.off hΓ (nm n3) at5 q) ?_
       refine h_hit_as (G := G) (L := L1) (s := { s with heap := h5, toks := tk' }) X5 fl5 (ex3 _) (fun A' Q' E' q => name_G (G := G.off) 5 cls_proto.g hG.off hΓ (nm n5) at5 q) fun h6 fl6 up6 => ?_
       exact k_as fl6 (up5.trans up6) ((htup.of_slots up5).of_slots up6) (st2 _) (sb2 _) hr fun v s' q => q
   | zde => cases (show none = some r from hPe)
   | lib =>
     refine wg fun P' bk => ?_
     obtain ⟨a0, flw⟩ := fl.fl
     have hr : r = .lst [.str (Str.ofString "number"), .str x] := by
       have : some _ = some r := hPe
       exact (sij this).symm
     refine bk ?_
     refine caught (G := G) hfr' hfΓ flw fun h5 fl5 up5 => ?_
     refine wg fun P' bk => ?_
     obtain ⟨X5, at5⟩ := inAt fl5.1
     refine bk ?_
     refine h_miss (G := G) (s := { s with heap := h5, toks := tk' }) X5 fl5 (ex4 _) (fun A' Q' E' q => name_G (G := G.off) 3 cls_reply.g hG.off hΓ (nm n3) at5 q) ?_
     refine h_miss (G := G) (s := { s with heap := h5, toks := tk' }) X5 fl5 (ex5 _) (fun A' Q' E' q => name_G (G := G.off) 5 cls_proto.g hG.off hΓ (nm n5) at5 q) ?_
     refine h_hit (G := G) (s := { s with heap := h5, toks := tk' }) X5 fl5 (ex6 _) (fun A' Q' E' q => name_B (G := G.off) 6 bn_ValueError hG.off hΓ (nm n6) at5 q) fun h6 fl6 up6 => ?_
     refine wg fun P' bk => ?_
     obtain ⟨X6, at6⟩ := inAt fl6.1
     have ns6 : h6.Ns Γ.L m := by rw [hLΓ]; exact (up5.trans up6).ns ns'
     have M6 : Mid B s.heap l L1 h6 := (M0 flw.1).slots hFF fl6.1 (up5.trans up6) (by obtain ⟨o, es, ep, ho, _⟩ := (hLΓ ▸ ns6 : h6.Ns L1 m); exact ⟨o, ho⟩)
     obtain ⟨u, hru⟩ := hrep
     refine bk ?_
     refine wpAny_execs_cons (wpAny_Return_some (List_ (spliced_more (Calls.Constant_str ?_) rfl)))
     refine spliced_more (wpAny_Name (wpAny_loadName_local hΓ.fn (hΓ.kind (nm n0)) ns6 hru ?_) rfl) rfl
     refine spliced_none (wpAny_newList ?_ (by rw [sizeLine_eq]; simp))
     refine fin _ _ _ (M6.push _) ?_
     rw [hr]
     exact ⟨_, _, rfl, by rw [hL1]; exact Nat.le_of_lt M6.lt, ⟨_, Heap.get?_push_size _ rfl, rfl, _, rfl⟩, _, _, rfl, ⟨_, rfl⟩, _, _, rfl, ⟨_, rfl⟩, rfl⟩
noncomputable def SSC (rm : Nat) (cs : Scope) (ss : List Stmt) (W : SW) : Prop :=
 ∀ (G : Gd) (Γ : Fi) (mu : List Addr) (s₀ : Shared) (σ : St) (ow : List Addr) (s : Shared) (A : Around) (Po : Post) (Q : Flow → Shared → Prop),
   G.Ok → Γ.Ok G mu s₀.heap → Γ.cs = cs → W σ Po → Rp G Γ mu s₀ σ ow s → RmG rm Γ A →
   (∀ fl σ' ow' s' f, Po fl σ' → Rp G Γ mu s₀ σ' ow' s' → Go Γ ow s ow' s' → FR s'.heap ow' fl f → Q f s') →
   wpC (model PG G.w) A (execs ss Γ.env) Q NoE s
noncomputable def S1C (rm : Nat) (cs : Scope) (st : Stmt) (W : SW) : Prop :=
 ∀ (G : Gd) (Γ : Fi) (mu : List Addr) (s₀ : Shared) (σ : St) (ow : List Addr) (s : Shared) (A : Around) (Po : Post) (Q : Flow → Shared → Prop),
   G.Ok → Γ.Ok G mu s₀.heap → Γ.cs = cs → W σ Po → Rp G Γ mu s₀ σ ow s → RmG rm Γ A →
   (∀ fl σ' ow' s' f, Po fl σ' → Rp G Γ mu s₀ σ' ow' s' → Go Γ ow s ow' s' → FR s'.heap ow' fl f → Q f s') →
   wpC (model PG G.w) A (exec st Γ.env) Q NoE s
section
variable {rm : Nat} {cs : Scope}
theorem S1C_of {st : Stmt} {W : SW} (h : S1 rm cs st W) : S1C rm cs st W := fun G Γ mu s₀ σ ow s A Po Q hG hΓ hc hW R hm hQ => wpC_of (h G Γ mu s₀ σ ow s A Po Q hG hΓ hc hW R hm hQ)
theorem SSC_of {ss : List Stmt} {W : SW} (h : SS rm cs ss W) : SSC rm cs ss W := fun G Γ mu s₀ σ ow s A Po Q hG hΓ hc hW R hm hQ => wpC_of (h G Γ mu s₀ σ ow s A Po Q hG hΓ hc hW R hm hQ)
theorem SSC_nil : SSC rm cs [] wNil := SSC_of SS_nil
theorem SSC_cons {st : Stmt} {ss : List Stmt} {W₁ W₂ : SW} (h₁ : S1C rm cs st W₁) (h₂ : SSC rm cs ss W₂) : SSC rm cs (st :: ss) (wSeq W₁ W₂) := fun G Γ mu s₀ σ ow s A Po Q hG hΓ hc hW R hm hQ => by
 refine wpC_execs_cons ?_
 refine h₁ G Γ mu s₀ σ ow s A _ _ hG hΓ hc hW R hm fun fl σ' ow' s' f hPo R' g hf => ?_
 cases fl with
 | next =>
   cases hf
   exact h₂ G Γ mu s₀ σ' ow' s' A Po Q hG hΓ hc hPo R' hm fun fl σ'' ow'' s'' f hPo R'' g' hf => hQ fl σ'' ow'' s'' f hPo R'' (g.trans g') hf
 | brk => cases hf; exact hQ .brk σ' ow' s' _ hPo R' g rfl
 | cont => cases hf; exact hQ .cont σ' ow' s' _ hPo R' g rfl
 | ret v => obtain ⟨y, rfl, vy⟩ := hf; exact hQ (.ret v) σ' ow' s' _ hPo R' g ⟨y, rfl, vy⟩
theorem for_loopC {G : Gd} {Γ : Fi} {mu : List Addr} {s₀ s s₁ : Shared} {σ : St} {ow : List Addr} {A : Around} {Po : Post} {R : Result → Shared → Prop} {t : PySem.Expr} {at_ : St → V → Option St} {b : List Stmt} {W : SW} {it : Addr} {chk : St → Prop} {xs : List P} {there : Heap → List Addr → List P → Prop}
   (hat : AT rm cs t at_) (hb : SSC rm cs b W) (hck : ∀ σ v σ', at_ σ v = some σ' → chk σ → chk σ') (hG : G.Ok) (hΓ : Γ.Ok G mu s₀.heap) (hc : Γ.cs = cs) (hm : RmG rm Γ A) (hit : s₀.heap.objs.size ≤ it)
   (X : Src G Γ mu s₀ A it chk there) (hl : ∀ v, letOwnedTupleGo t (.ref it) v = pure ()) (h0 : there s₁.heap ow xs) (hk : chk σ) (hW : wTurns chk at_ W xs σ Po) (Rr : Rp G Γ mu s₀ σ ow s₁) (g0 : Go Γ ow s ow s₁) (hn : s.heap.get? it = none)
   (hR : ∀ fl σ' ow' s' f, Po fl σ' → (fl = .next ∨ ∃ v, fl = .ret v) → Rp G Γ mu s₀ σ' ow' s' → Go Γ ow s ow' s' → FR s'.heap ow' fl f → R (.ok f) s') :
   codeC (model PG G.w) A (.forLoop t (.ref it) b [] Γ.env) R s₁ := by
 refine codeC_forLoop (FInv G Γ mu s₀ s ow there chk at_ W Po) ?_ xs.length ⟨xs, σ, ow, rfl, h0, hk, hW, Rr, g0⟩ hl
 rintro n s' ⟨xs, σ', ow', rfl, ht, hk, hW, Rr, g⟩
 obtain ⟨ob, hob, S⟩ := X.obj ht
 cases xs with
 | nil =>
   refine X.stop Rr hk ht fun h' tk he => ?_
   have R' := Rr.ext hΓ tk he hob S hit
   exact hR .next σ' ow' _ _ hW (.inl rfl) R' (g.skip (s₂ := { s' with heap := h', toks := tk }) he hn) rfl
 | cons x xs =>
   obtain ⟨σ₁, h1, h2⟩ := hW
   refine X.next Rr hk ht fun y h' tk py he ht' => ?_
   have R' := Rr.ext hΓ tk he hob S hit
   have g' := g.skip (s₂ := { s' with heap := h', toks := tk }) he hn
   have py' : VR h' ow' (.p x) y := PV.mono (fun b o e ⟨vs, n, d⟩ _ => he b o (fun z => by subst z; rw [hob] at e; obtain rfl := sij e; exact S.seq d) e) (fun zz zz zz k => k) py
   refine hat G Γ mu s₀ σ' σ₁ ow' _ (.p x) y A _ hG hΓ hc h1 R' hm py' fun s₂ R₂ g₂ => ?_
   refine hb G Γ mu s₀ σ₁ ow' s₂ A _ _ hG hΓ hc h2 R₂ hm fun fl σ₃ ow₃ s₃ f hPo R₃ g₃ hf => ?_
   have gg := (g'.trans g₂).trans g₃
   have tt := X.go R₂ g₃ (X.go R' g₂ ht')
   cases fl with
   | next =>
     cases hf
     exact ⟨xs.length, Nat.lt_succ_self _, xs, σ₃, ow₃, rfl, tt, hPo.1, hPo.2, R₃, gg⟩
   | cont =>
     cases hf
     exact ⟨xs.length, Nat.lt_succ_self _, xs, σ₃, ow₃, rfl, tt, hPo.1, hPo.2, R₃, gg⟩
   | brk =>
     cases hf
     exact hR .next σ₃ ow₃ s₃ _ hPo (.inl rfl) R₃ gg rfl
   | ret v =>
     obtain ⟨z, rfl, vz⟩ := hf
     exact hR (.ret v) σ₃ ow₃ s₃ _ hPo (.inr ⟨v, rfl⟩) R₃ gg ⟨z, rfl, vz⟩
theorem S1C_forR (i : Nat) {t e : PySem.Expr} {p rpos : Pos} {b : List Stmt} {pos : Pos} {at_ : St → V → Option St} {f : St → Option V} {W : SW} (B : Bn (Str.ofString "range") (.type "range")) (hx : cs.names[i]? = some (Str.ofString "range", .globalImplicit)) (hat : AT rm cs t at_) (he : ES rm cs e f) (hb : SSC rm cs b W)
   (hn : ∀ env, starEach [e] env = [(false, eval e env)]) (hl : ∀ it v, letOwnedTupleGo t it v = pure ()) : S1C rm cs (.For t (.Call (.Name (Str.ofString "range") p) [e] [] rpos) b [] pos) (wForR at_ f W) := fun G Γ mu s₀ σ ow s A Po Q hG hΓ hc hW R hm hQ => by
 obtain ⟨n, hv, hlt, hW⟩ := hW
 refine wpC_For ?_ (fun x => rfl)
 with_reducible refine wpAny_Call_NameR ?_
 refine name_B i B hG hΓ (hc ▸ hx) R.ok ?_
 with_reducible refine PyProof.Rows.callWith_type1 ?_ (hn _) rfl
 with_reducible refine spliced_more ?_ (hn _)
 refine he G Γ mu s₀ σ ow s _ A _ hG hΓ hc hv R hm fun y s₁ vy R₁ o₁ => ?_
 obtain ⟨t', rfl⟩ := vy
 with_reducible refine spliced_none ?_
 have g₁ : Go Γ ow s ow s₁ := Go.of_old o₁ R₁.ok
 with_reducible refine call_range_1 ?_
 have R₂ := R₁.step (s₁.toks + 1 + 1) (Old.push { cls := .type "range", data := .fields #[.int 0 s₁.toks, .int n t', .int 1 (s₁.toks + 1)] }) (R₁.ok.push _)
 have g₂ := g₁.trans (Go.of_old (s' := { s₁ with heap := s₁.heap.push { cls := .type "range", data := .fields #[.int 0 s₁.toks, .int n t', .int 1 (s₁.toks + 1)] }, toks := s₁.toks + 1 + 1 }) (.push _) (R₁.ok.push _))
 have hsz : Builtin.Range.rangeSize 0 n 1 = (n.toNat : Int) := by rw [rangeSize_one]; split <;> lia
 refine wpAny_pyIter_range (IsRange.new _ _ _ _ _ _ _) (small_one (by exact r6) (by exact r6) (by lia) (by lia)) ?_
 refine for_loopC (s := s) (there := fun h ow xs' => ∃ (a : Int) (k : Nat), IsRangeIter h (s₁.heap.push { cls := .type "range", data := .fields #[.int 0 s₁.toks, .int n t', .int 1 (s₁.toks + 1)] }).objs.size a (k : Int) 1 ∧ xs' = rangeP a k) hat hb (fun σ v σ' h k => k) hG hΓ hc hm (R₂.above hΓ) (src_range hm.hd) (hl _) ⟨0, n.toNat, ?_, rfl⟩ trivial hW
   (R₂.step _ (.push _) (R₂.ok.push _)) (g₂.trans (Go.of_old (.push _) (R₂.ok.push _))) (none_back (o₁.trans (.push _)) R₂.ok.tabs (get_size _)) fun fl σ' ow' s' f hPo zz R' g' hf => hQ fl σ' ow' s' f hPo R' g' hf
 rw [← hsz]
 exact Heap.get?_push_size _ rfl
end
theorem Rp.turned {G : Gd} {Γ : Fi} {mu : List Addr} {s₀ s : Shared} {σ : St} {ow : List Addr} (R : Rp G Γ mu s₀ σ ow s) (hΓ : Γ.Ok G mu s₀.heap) (hf : Γ.fr = Γ.L) {h' : Heap} (tk : Nat) (T : Turned G s.heap [Γ.env] h') :
   Rp G Γ mu s₀ σ ow { s with heap := h', toks := tk } ∧ Go Γ ow s ow { s with heap := h', toks := tk } := by
 have hfrs : frs [Γ.env] = [Γ.L] := by
   show [Γ.fr] = _; rw [hf]
 obtain ⟨m, hn, hm⟩ := R.m
 obtain ⟨oL, es, ep, eL, hd, hk1, hk2⟩ := id hn
 obtain ⟨sl, eL'⟩ := T.up Γ.L (by rw [hfrs]; simp) oL eL
 have hfreed : ({ oL with slots := sl } : Obj).isFreed = false := by
   obtain ⟨c, d, dt, sl'⟩ := oL; cases hd; rfl
 have gL := Heap.get?_update_self (fun o => { o with slots := sl }) eL hfreed
 have sb : Heap.SameBut Γ.L s.heap (s.heap.update Γ.L fun o => { o with slots := sl }) := .update ..
 have hn₁ : (s.heap.update Γ.L fun o => { o with slots := sl }).Ns Γ.L m := ⟨_, es, ep, gL, hd, hk1, hk2⟩
 have hnc : ∀ {c v}, s.heap.IsCell c v → c ≠ Γ.L := fun ⟨o, q, hq⟩ z => by rw [z, eL] at q; cases q; rw [hd] at hq; cases hq
 have R₁ := R.turn hΓ s.toks σ sb eL (fun ⟨vs, n, q⟩ => by rw [hd] at q; cases q) R.L_off.2 (by intro vs q; rw [hd] at q; cases q) (.inl hΓ.L) ⟨m, hn₁, hm⟩ (fun i x k v a b c => let ⟨c', y, q1, q2, r⟩ := R.c i x k v a b c; ⟨c', y, q1, q2.sameBut sb (hnc q2), r⟩)
   (fun x c e => let ⟨v, q⟩ := R.cells x c e; ⟨v, q.sameBut sb (hnc q)⟩) rfl rfl fun i a xs e1 e2 => let ⟨ys, n, q, p⟩ := R.own i a xs e1 e2; ⟨ys, n, (sb.2 a (R.own_off (List.mem_of_getElem? e1)).2).trans q, p⟩
 have o₂ : Old tb (s.heap.update Γ.L fun o => { o with slots := sl }) h' := fun b o hb e => by
   by_cases hbL : b = Γ.L
   · subst hbL
     rw [gL] at e; obtain rfl := sij e
     exact eL'
   · exact T.keep b o ((sb.2 b hbL).symm.trans e) (by rw [hfrs]; simpa using hbL) hb
 have g₁ : Go Γ ow s ow { s with heap := s.heap.update Γ.L fun o => { o with slots := sl }, toks := s.toks } := Go.turn sb (.inl rfl) gL
 exact ⟨R₁.step tk o₂ T.at_, g₁.trans (Go.of_old (s' := { s with heap := h', toks := tk }) o₂ T.at_)⟩
noncomputable def PortIs (x : Str) (r : P) : Prop := W_parse229 (St.of [.str x, .tup [.str (Str.ofString "peer"), .int 21]] 9) (fun fl σ => Outs r fl σ) (fun ex => resEx x ex = some r)
noncomputable def wPort (i : Nat) (f : St → Option V) : SW := fun σ Po => ∃ x r, f σ = some (.p (.str x)) ∧ PortIs x r ∧ Po .next (σ.put i (.p r))
theorem S1C_port {rm : Nat} {cs : Scope} (i j : Nat) {x : Str} {e : PySem.Expr} {p np cpos pos : Pos} {f : St → Option V} (hmk : markOf cs = some (148, Str.ofString "law")) (hx : cs.names[i]? = some (x, .local)) (hj : cs.names[j]? = some (Str.ofString "_law_port", .globalImplicit)) (he : ES (rm + 2) cs e f)
   (hn : ∀ env, starEach [e] env = [(false, eval e env)]) (hs : ∀ env : Env, env.scope = cs → swapsWith (.Call (.Name (Str.ofString "_law_port") np) [e] [] cpos) (some (.Name x p)) pos.line env = pure false) :
   S1C (rm + 2) cs (.Assign [.Name x p] (.Call (.Name (Str.ofString "_law_port") np) [e] [] cpos) pos) (wPort i f) := fun G Γ mu s₀ σ ow s A Po Q hG hΓ hc hW R hm hQ => by
 refine wg fun P' bk => ?_
 obtain ⟨tx, r, hf, hp, hPo⟩ := hW
 obtain ⟨hfr, hfL⟩ := hm.fr (hc ▸ hmk)
 refine bk ?_
 refine wpC_Assign_Name ?_ (hs _ hc)
 refine wpC_Call_Name (wpC_of (name_G j fk_law_port.n hG hΓ (hc ▸ hj) R.ok ?_))
 refine wg fun P' bk => ?_
 obtain ⟨of, fd, hof, hdf⟩ := fk_law_port.o G.w
 refine bk ?_
 rw [hn]
 refine wpC_callWith_def (o := of) (fd := fd) rfl (Nat.le_of_ble_eq_true rfl) hdf (Calls.evalArgs_plain (wpAny_mono (E := NoE) (Calls.spliced_cons (he G Γ mu s₀ σ ow s _ A _ hG hΓ hc hf R hm fun y s₁ vy R₁ o₁ => ?_)) (fun zz zz h => h) fun zz zz h => h.elim))
 refine wg fun P' bk => ?_
 obtain ⟨u, rfl⟩ := vy
 refine bk ?_
 refine Calls.spliced_nil ⟨R₁.ok.stay _ _ (hG.X _ _ hof), ?_⟩
 refine wg fun P' bk => ?_
 obtain ⟨qual, params, body, cs', dV, kV, D⟩ := d_port
 obtain ⟨m, hns, _⟩ := R₁.m
 obtain ⟨oL, es, ep, eL, hd, _⟩ := id hns
 have FF₁ : FF s₁.heap [Γ.env] := by
   refine ⟨fun env h => ?_, fun env h => ?_⟩
   · rw [List.mem_singleton.mp h]; show Γ.cs.kind ≠ .module; rw [hΓ.fn]; decide
   · rw [List.mem_singleton.mp h]; exact ⟨Γ.L, oL, es, ep, congrArg some hfL, eL, hd⟩
 refine bk ?_
 refine port_call D hG R₁.ok hm.toRm hfr FF₁ (fun b o e q => ?_) hp fun y h' tk py T => ?_
 · have : b = Γ.L := by
     have : b ∈ [Γ.fr] := q
     rw [List.mem_singleton.mp this, hfL]
   have h1 := (hΓ.g0 b o e).1
   rw [this] at h1
   exact absurd hΓ.L (Nat.not_le.mpr h1)
 · refine wg fun P' bk => ?_
   obtain ⟨R₂, g₂⟩ := R₁.turned hΓ hfL tk T
   have g₁ : Go Γ ow s ow s₁ := Go.of_old o₁ R₁.ok
   refine bk ?_
   refine wpC_of (store_of i R₂ hΓ (hc ▸ hx) (.inl rfl) (v := .p r) (py.mono (fun b o e zz zz => e) fun b o e k z => absurd (R₁.ow_lt b z) (Nat.not_lt.mpr k)) fun s₃ R₃ g₃ => ?_)
   exact hQ .next _ ow s₃ _ hPo R₃ ((g₁.trans g₂).trans g₃) rfl
section
variable {G : Gd} {Γ : Fi} {mu : List Addr} {s₀ s : Shared} {σ : St} {ow : List Addr}
theorem Rp.kp (R : Rp G Γ mu s₀ σ ow s) {h' : Heap} (o : Old (ow ++ tb) s.heap h') : ∀ b ob, s.heap.get? b = some ob → (∃ vs n, ob.data = .seq vs n) → (ob.cls = .type "tuple" ∨ (ob.cls = .type "list" ∧ b ∉ ow)) → h'.get? b = some ob := fun b ob e zz q => by
 refine o b ob (fun z => ?_) e
 rcases List.mem_append.mp z with z | z
 · rcases q with q | ⟨_, q⟩
   · obtain ⟨ys, n, e'⟩ := R.own_obj z
     rw [e] at e'; obtain rfl := sij e'
     exact absurd (show (Value.type "list") = .type "tuple" from q) (by simp)
   · exact q z
 · have := tab_cls R.ok.tabs z e
   rcases q with q | ⟨q, _⟩ <;> rw [this] at q <;> cases q
theorem Rp.lent (R : Rp G Γ mu s₀ σ ow s) {h' : Heap} (tk : Nat) {own' : List (List P)} (o : Old (ow ++ tb) s.heap h') (ok : G.at h') (hlen : own'.length = σ.own.length) (hown : OwnAt h' ow own') :
   Rp G Γ mu s₀ { σ with own := own' } ow { s with heap := h', toks := tk } ∧ Go Γ ow s ow { s with heap := h', toks := tk } := by
 have kp := R.kp o
 have pv : ∀ {v y}, VR s.heap ow v y → VR h' ow v y := fun {v y} q => by
   cases v with
   | p x => exact PV.mono kp (fun zz zz zz k => k) q
   | own i => exact q
 have cell : ∀ {c v}, s.heap.IsCell c v → h'.IsCell c v := fun {c v} ⟨oc, e, hd⟩ => ⟨oc, o c oc (fun z => by
   rcases List.mem_append.mp z with z | z
   · refine wg fun P' bk => ?_
     obtain ⟨ys, n, e'⟩ := R.own_obj z
     refine bk ?_
     rw [e] at e'; cases e'; cases hd
   · refine wg fun P' bk => ?_
     obtain ⟨vs, q⟩ := tab_data R.ok.tabs z e
     refine bk ?_
     rw [hd] at q; cases q) e, hd⟩
 refine ⟨⟨?_, ok, fun c ob hn e => ?_, ?_, fun i x k v a b c => ?_, fun x c e => ?_, hown, R.len.trans hlen.symm, R.nd, R.owf, R.ky, R.kl⟩, ?_⟩
 · obtain ⟨h, t, e⟩ := R.sh
   exact ⟨h', tk, by rw [e]⟩
 · refine o c ob (fun z => ?_) (R.old c ob hn e)
   rcases List.mem_append.mp z with z | z
   · rcases R.owf c z with q | q
     · exact absurd (Heap.lt_size e) (Nat.not_lt.mpr q)
     · exact hn (List.mem_append_right _ q)
   · exact hn (List.mem_append_left _ z)
 · refine wg fun P' bk => ?_
   obtain ⟨m, ⟨oL, es, ep, e, r⟩, hm⟩ := R.m
   refine bk ?_
   refine ⟨m, ⟨oL, es, ep, o _ _ (fun z => ?_) e, r⟩, fun i x v a b => let ⟨y, e, q⟩ := hm i x v a b; ⟨y, e, pv q⟩⟩
   rcases List.mem_append.mp z with z | z
   · exact R.L_off.1 z
   · exact R.L_off.2 z
 · obtain ⟨c', y, e, q, r⟩ := R.c i x k v a b c
   exact ⟨c', y, e, cell q, pv r⟩
 · obtain ⟨v, q⟩ := R.cells x c e
   exact ⟨v, cell q⟩
 · refine ⟨fun b ob hn e => o b ob (fun z => ?_) e, fun b e => ?_, List.prefix_rfl, fun zz h => .inl h⟩
   · rcases List.mem_append.mp z with z | z
     · exact hn (.inr (.inl z))
     · exact hn (.inr (.inr (.inl z)))
   · cases q : s.heap.get? b with
     | none => rfl
     | some ob =>
       by_cases hb : b ∈ ow ++ tb
       · rcases List.mem_append.mp hb with hb | hb
         · refine wg fun P' bk => ?_
           obtain ⟨i, hi, e1⟩ := List.getElem_of_mem hb
           obtain ⟨ys, n, e2, _⟩ := hown i b (own'[i]'(by rw [hlen, ← R.len]; exact hi)) (by rw [← e1]; simp [hi]) (by simp)
           have e' : h'.get? b = none := e
           refine bk ?_
           rw [e'] at e2; cases e2
         · refine wg fun P' bk => ?_
           obtain ⟨ob', q'⟩ := tab_there ok.tabs hb
           have e' : h'.get? b = none := e
           refine bk ?_
           rw [e'] at q'; cases q'
       · have e' : h'.get? b = none := e
         have q' := o b ob hb q
         rw [e'] at q'; cases q'
end
noncomputable def wKam (rm : Nat) (f : St → Option V) (fs : St → Option (List V)) : SW := fun σ Po => ∃ F ps xs xs', f σ = some (.p (.raw (.ref F))) ∧ F = σ.ky.a ∧ σ.ky.n ≤ rm ∧ σ.ky.on = true ∧ fs σ = some (ps.map .p) ∧ noLsts ps = true ∧ noLsts xs = true ∧ noLsts xs' = true ∧ σ.own[0]? = some xs ∧ σ.ky.kam ps xs = some xs' ∧ Po .next (σ.set 0 xs')
theorem VRs.ps {h : Heap} {ow : List Addr} : ∀ {ps : List P} {ys : List Value}, VRs h ow (ps.map .p) ys → PVs (· ∉ ow) h ps ys
 | [], _, e => e
 | _ :: _, _, ⟨y, r, e, a, b⟩ => ⟨y, r, e, a, VRs.ps b⟩
section
variable {rm : Nat} {cs : Scope}
theorem S_kam {x : Str} {p cpos pos : Pos} {e : PySem.Expr} {es : List PySem.Expr} {f : St → Option V} {fs : St → Option (List V)} (hf : ES rm cs (.Name x p) f) (hs : ESs rm cs (e :: es) fs) (he : ∀ env, starEach (e :: es) env = (false, eval e env) :: starEach es env)
   (hsw : ∀ env : Env, swapsWith (.Call (.Name x p) (e :: es) [] cpos) none pos.line env = pure false) : S1 rm cs (.Expr (.Call (.Name x p) (e :: es) [] cpos) pos) (wKam rm f fs) := fun G Γ mu s₀ σ ow s A Po Q hG hΓ hc hW R hm hQ => by
 refine wg fun P' bk => ?_
 obtain ⟨F, ps, xs, xs', h1, hF, hn, hon, h2, n1, n2, n3, hx, hk, hPo⟩ := hW
 rw [R.ky] at hF hn hon hk
 subst hF
 obtain ⟨o, fd, ho, hd⟩ := hG.fo (.inr hon)
 refine bk ?_
 refine wpAny_exprNone ?_ (inter hΓ) (hsw _)
 with_reducible refine wpAny_Call_NameR ?_
 refine hf G Γ mu s₀ σ ow s _ A _ hG hΓ hc h1 R hm fun fv s₁ vf R₁ o₁ => ?_
 cases vf
 with_reducible refine callWith_def (o := o) (fd := fd) hd ?_ (he _)
 refine hs G Γ mu s₀ σ ow s₁ _ A _ _ hG hΓ hc h2 R₁ hm fun ys s₂ rs R₂ o₂ => ⟨R₂.ok.stay _ _ ho, ?_⟩
 refine wg fun P' bk => ?_
 obtain ⟨a, us, n, ha, el, pu⟩ := R₂.own_at hx
 have hal : a = G.ky.lst := by have := R₂.kl hon; rw [ha] at this; exact sij this
 subst hal
 refine bk ?_
 refine hG.kam s₂ A ps ys xs us n xs' _ hon R₂.ok (hm.toRm.mono hn) (PVs.any n1 rs.ps) el (PVs.any n2 pu) hk fun h' tk us' n' o' el' pu' ok' => ⟨rfl, ?_⟩
 have hmem := List.mem_of_getElem? ha
 have o₃ : Old (ow ++ tb) s₂.heap h' := fun b ob hb e => o' b ob (fun z => by
   rcases List.mem_cons.mp z with rfl | z
   · exact hb (List.mem_append_left _ hmem)
   · exact hb (List.mem_append_right _ z)) e
 refine wg fun P' bk => ?_
 obtain ⟨R₃, g₃⟩ := R₂.lent tk (own' := σ.own.set 0 xs') o₃ ok' (by simp) fun i b zs e1 e2 => by
   by_cases hi : i = 0
   · subst hi
     rw [ha] at e1; obtain rfl := sij e1
     have h0 : 0 < σ.own.length := (List.getElem?_eq_some_iff.mp hx).1
     rw [List.getElem?_set_self h0] at e2; obtain rfl := sij e2
     exact ⟨us', n', el', PVs.any n3 pu'⟩
   · rw [List.getElem?_set_ne (Ne.symm hi)] at e2
     obtain ⟨ys', k, q, p'⟩ := R₂.own i b zs e1 e2
     have hne : b ≠ G.ky.lst := fun z => hi (nodup_idx R₂.nd (z ▸ e1) ha)
     exact ⟨ys', k, o' b _ (fun z => by
       rcases List.mem_cons.mp z with z | z
       · exact hne z
       · exact (R₂.own_off (List.mem_of_getElem? e1)).1 z) q, p'.mono (R₂.kp o₃) fun zz zz zz k => k⟩
 refine bk ?_
 exact hQ .next _ ow _ _ hPo R₃ ((Go.of_old (o₁.trans o₂) R₂.ok).trans g₃) rfl
end
theorem clo_enter {G : Gd} {rm : Nat} {F : Addr} {name qual : Str} {params : Arguments} {body : List Stmt} {cs : Scope} {cl : List (Str × Addr)} {doc pm cdv ct : Value} {W : SW} {pn : List Str} {rest : List (Option V)} {mu ow : List Addr} {own : List (List P)} {xs : List P} {ys : List Value} {s : Shared} {A : Around} {Po : Post} {Q : Value → Shared → Prop}
   (hG : G.Ok) (hS : SS rm cs body W) (C : NoCell cs pn) (hF : s.heap.get? F = some { cls := .type "function", data := .func (fnX name qual params body cs cl .none .none doc pm none cdv ct) }) (hcd : s.heap.CodeRec cdv qual) (B : Base G s.heap cs cl pn.length rest mu ow own)
   (T : BindsTo s (fnX name qual params body cs cl .none .none doc pm none cdv ct) ⟨ys, []⟩ (pn.zip ys)) (ok : G.at s.heap) (hm : Rm (rm + 1) A) (hv : PVs (· ∉ ow) s.heap xs ys) (hxl : xs.length = pn.length) (hW : W ⟨xs.map (fun x => some (.p x)) ++ rest, own, G.ky⟩ Po)
   (hQ : ∀ Γ fl σ' ow' s' fw, Po fl σ' → Rp G Γ mu s σ' ow' s' → ow <+: ow' → FR s'.heap ow' fl fw → Q (retOf fw) s') : wpAny (model PG G.w) A (call (.ref F) ys) Q NoE s := by
 have hlim : s.heap.NoLimit := let ⟨mc, n, q⟩ := hG.nolimit; ⟨mc, n.keeps ok.stay, q⟩
 refine wpAny_call (codeAny_call_def (fd := fnX name qual params body cs cl .none .none doc pm none cdv ct) (body := body) (binds := pn.zip ys) (by have := hm.dp; exact m4 ‹_›) hF rfl hlim hcd rfl T (fun x hx => C.cell x hx) C.loc ?_ C.co C.gen C.k)
 intro h₀ hns hst
 obtain ⟨hΓ, R⟩ := start (tk := s.toks + (pn.zip ys).length) (f := F) (cdv := cdv) (qual := qual) ok C B hv hxl hns hst
 have hm' : RmG rm ⟨qual, cs, s.heap.objs.size, s.heap.objs.size, some F, cdv, cl⟩ (A.deeper (Fi.env ⟨qual, cs, s.heap.objs.size, s.heap.objs.size, some F, cdv, cl⟩)) := .of ⟨hm.hd, by have := hm.dp; show A.depth + 1 + rm < _; exact m5 ‹_›, by have := hm.un; show A.units + 3 + 10 * rm < _; lia⟩ (by rw [show markOf cs = none from C.mark]; nofun)
 refine wpAny_mono (hS G _ mu s _ ow _ (A.deeper (Fi.env ⟨qual, cs, s.heap.objs.size, s.heap.objs.size, some F, cdv, cl⟩)) Po (fun fl s' => Q (retOf fl) s') hG hΓ rfl hW R hm' fun fl σ' ow' s' fw hPo R' g hf => hQ _ fl σ' ow' s' fw hPo R' g.pre hf) (fun fl zz h => by cases fl <;> exact h) fun zz zz h => h.elim
theorem cellsFrom_keep {x : Str} : ∀ (names : List (Str × NameKind)) (n : Nat) (acc : List (Str × Addr)), (∃ c, acc.lookup x = some c) → ∃ c, (cellsFrom n names acc).lookup x = some c
 | [], _, _, h => h
 | (y, k) :: r, n, acc, h => by
   dsimp only [cellsFrom]
   split
   · refine cellsFrom_keep r _ _ ?_
     rw [List.lookup_cons]
     split
     · exact ⟨_, rfl⟩
     · exact h
   · exact cellsFrom_keep r _ _ h
theorem cellsFrom_has {x : Str} : ∀ (names : List (Str × NameKind)) (n : Nat) (acc : List (Str × Addr)), names.lookup x = some .cell → ∃ c, (cellsFrom n names acc).lookup x = some c
 | (y, k) :: r, n, acc, h => by
   rw [List.lookup_cons] at h
   unfold cellsFrom
   split at h
   · rename_i hxy
     obtain rfl := sij h
     rw [if_pos (by rfl)]
     exact cellsFrom_keep r _ _ ⟨n, by rw [List.lookup_cons, hxy]⟩
   · split
     · exact cellsFrom_has r _ _ h
     · exact cellsFrom_has r _ _ h
theorem bindL_off {kindOf : Str → Option NameKind} {x : Str} : ∀ {binds : List (Str × Value)} {m : Str → Option Value}, (∀ q ∈ binds, q.1 ≠ x) → bindL kindOf binds m x = m x
 | [], _, _ => rfl
 | (y, v) :: r, m, h => by
   dsimp only [bindL]
   rw [bindL_off fun q hq => h q (.tail _ hq)]
   have := h (y, v) (.head _)
   split
   · exact if_neg (Ne.symm this)
   · rfl
theorem bindC_off {kindOf : Str → Option NameKind} {x : Str} : ∀ {binds : List (Str × Value)} {m : Str → Option Value}, (∀ q ∈ binds, q.1 ≠ x) → bindC kindOf binds m x = m x
 | [], _, _ => rfl
 | (y, v) :: r, m, h => by
   dsimp only [bindC]
   rw [bindC_off fun q hq => h q (.tail _ hq)]
   have := h (y, v) (.head _)
   split
   · rfl
   · exact if_neg (Ne.symm this)
theorem zip_off {p : Str} : ∀ {pn : List Str} {ys : List Value}, p ∉ pn → ∀ q ∈ pn.zip ys, q.1 ≠ p := fun {pn ys} h q hq z => h (z ▸ (List.of_mem_zip (a := q.1) (b := q.2) hq).1)
theorem bindL_at {kindOf : Str → Option NameKind} {x : Str} (hk : kindOf x = some .local) : ∀ {pn : List Str} {ys : List Value} {i : Nat} {m : Str → Option Value}, pn.Nodup → pn[i]? = some x → ys.length = pn.length → bindL kindOf (pn.zip ys) m x = ys[i]?
 | p :: pn, y :: ys, 0, m, nd, h, hl => by
   simp only [List.getElem?_cons_zero, Option.some.injEq] at h
   subst h
   simp only [List.zip_cons_cons, bindL, hk, if_true]
   rw [bindL_off (zip_off (List.nodup_cons.mp nd).1)]
   simp
 | p :: pn, y :: ys, i + 1, m, nd, h, hl => by
   simp only [List.getElem?_cons_succ] at h ⊢
   simp only [List.zip_cons_cons, bindL]
   exact bindL_at hk (List.nodup_cons.mp nd).2 h (by simpa using hl)
 | [], _, _, _, _, h, _ => by simp at h
 | _ :: _, [], _, _, _, _, hl => by simp at hl
theorem bindC_at {kindOf : Str → Option NameKind} {x : Str} (hk : kindOf x ≠ some .local) : ∀ {pn : List Str} {ys : List Value} {i : Nat} {m : Str → Option Value}, pn.Nodup → pn[i]? = some x → ys.length = pn.length → bindC kindOf (pn.zip ys) m x = ys[i]?
 | p :: pn, y :: ys, 0, m, nd, h, hl => by
   simp only [List.getElem?_cons_zero, Option.some.injEq] at h
   subst h
   simp only [List.zip_cons_cons, bindC, if_neg hk]
   rw [bindC_off (zip_off (List.nodup_cons.mp nd).1)]
   simp
 | p :: pn, y :: ys, i + 1, m, nd, h, hl => by
   simp only [List.getElem?_cons_succ] at h ⊢
   simp only [List.zip_cons_cons, bindC]
   exact bindC_at hk (List.nodup_cons.mp nd).2 h (by simpa using hl)
 | [], _, _, _, _, h, _ => by simp at h
 | _ :: _, [], _, _, _, _, hl => by simp at hl
structure Celled (cs : Scope) (pn : List Str) (m : Nat) (mk : Option (Addr × Str)) : Prop where
 n : (cs.names.take pn.length).map (·.1) = pn
 pk : ∀ x ∈ cs.names.take pn.length, x.2 = .local ∨ x.2 = .cell
 nd : (cs.names.map (·.1)).Nodup
 fr : ∀ x ∈ cs.names, x.2 ≠ .free
 k : cs.kind = .function
 co : cs.isCoroutine = false
 gen : cs.isGenerator = false
 len : cs.names.length = pn.length + m
 mark : markOf cs = mk
theorem Celled.nodup {cs : Scope} {pn : List Str} {m : Nat} {mk : Option (Addr × Str)} (C : Celled cs pn m mk) : pn.Nodup := by
 rw [← C.n, List.map_take]
 exact C.nd.sublist (List.take_sublist _ _)
theorem Celled.at {cs : Scope} {pn : List Str} {m : Nat} {mk : Option (Addr × Str)} (C : Celled cs pn m mk) {i : Nat} {x : Str} {k : NameKind} (h : cs.names[i]? = some (x, k)) (hi : i < pn.length) : pn[i]? = some x := by
 have h2 : (cs.names.take pn.length)[i]? = some (x, k) := by
   rw [List.getElem?_take, if_pos hi]; exact h
 have : ((cs.names.take pn.length).map (·.1))[i]? = some x := by rw [List.getElem?_map, h2]; rfl
 rwa [C.n] at this
noncomputable abbrev cellFi (qual : Str) (cs : Scope) (L : Addr) (f : Addr) (cdv : Value) : Fi := ⟨qual, cs, L, L, some f, cdv, cellsFrom (L + 1) cs.names []⟩
theorem start_cells {G : Gd} {s s' : Shared} {cs : Scope} {pn : List Str} {m : Nat} {mk : Option (Addr × Str)} {xs : List P} {ys : List Value} {f : Addr} {cdv : Value} {qual : Str} (C : Celled cs pn m mk) (hmk : ∀ c q, mk = some (c, q) → cdv = .ref c ∧ qual = q) (hon : G.ky.on = false) (hno : G.ky = Ky.no) (ok : G.at s.heap) (hv : PVs (fun zz => True) s.heap xs ys) (hxl : xs.length = pn.length)
   (x : InCallC s s.heap.objs.size (bindL (cellFi qual cs s.heap.objs.size f cdv).env.kindOf (pn.zip ys) fun zz => none) (cellFi qual cs s.heap.objs.size f cdv).cl (bindC (cellFi qual cs s.heap.objs.size f cdv).env.kindOf (pn.zip ys) fun zz => none) s') :
   Fi.Ok G (cellFi qual cs s.heap.objs.size f cdv) [] s.heap ∧ Rp G (cellFi qual cs s.heap.objs.size f cdv) [] s (St.of xs m) [] s' := by
 have hlen : ys.length = pn.length := hv.len.trans hxl
 have hst := x.toInCall.keep
 have vr : ∀ {v y}, PV (fun zz => True) s.heap v y → PV (· ∉ ([] : List Addr)) s'.heap v y := fun {v y} q => q.mono (fun b o e zz zz => hst b o e) fun b o e k => by simp
 have val : ∀ {i : Nat} {n : Str} {k : NameKind} {v : V}, cs.names[i]? = some (n, k) → (St.of xs m).vals[i]? = some (some v) → ∃ p y, v = .p p ∧ ys[i]? = some y ∧ PV (fun zz => True) s.heap p y ∧ pn[i]? = some n := fun {i n k v} e1 e2 => by
   by_cases hi : i < xs.length
   · simp only [St.of] at e2
     rw [List.getElem?_append_left (by simpa using hi)] at e2
     simp only [List.getElem?_map, Option.map_eq_some_iff] at e2
     obtain ⟨p, hp, e2⟩ := e2
     obtain rfl := sij e2
     obtain ⟨y, hy, py⟩ := hv.get hp
     exact ⟨p, y, rfl, hy, py, C.at e1 (hxl ▸ hi)⟩
   · simp only [St.of] at e2
     rw [List.getElem?_append_right (by simpa using hi)] at e2
     simp [List.getElem?_replicate] at e2
 refine ⟨⟨C.k, C.nd, Nat.le_refl _, fun n c e1 e2 => Nat.le_of_lt (x.above n c (PySem.mem_of_lookup e2)), fun n e => cellsFrom_has _ _ _ e, fun n n' c e e' => PySem.name_of_addr x.apart (PySem.mem_of_lookup e) (PySem.mem_of_lookup e'), fun b o e => ⟨Heap.lt_size (ok.stay b o e), by simp⟩, fun a ha => by simp at ha, fun c q e => hmk c q (C.mark.symm.trans e)⟩,
   x.toInCall.same, ⟨fun b o e => hst b o (ok.stay b o e), fun q hq => let ⟨ps, e, t, c⟩ := ok.tabs q hq; ⟨ps, hst _ _ e, t, fun pos cv hc => (c pos cv hc).keeps hst⟩⟩, .of hst, ⟨_, x.toInCall.ns, fun i n v e1 e2 => ?_⟩, fun i n k v e1 e2 e3 => ?_, fun n c e => ⟨_, x.cell n c e⟩, fun i a zs e => by simp at e, rfl, List.nodup_nil, fun a ha => by simp at ha, hno.symm, fun h => by rw [hon] at h; cases h⟩
 · refine wg fun P' bk => ?_
   obtain ⟨p, y, rfl, hy, py, hp⟩ := val e1 e2
   refine bk ?_
   refine ⟨y, ?_, vr py⟩
   rw [bindL_at (lookup_of_nth C.nd e1) C.nodup hp hlen, hy]
 · refine wg fun P' bk => ?_
   obtain ⟨p, y, rfl, hy, py, hp⟩ := val e1 e3
   have hcell : k = .cell := by
     rcases e2 with h | h
     · exact h
     · exact absurd h (C.fr _ (List.mem_of_getElem? e1))
   subst hcell
   have hkd : cs.names.lookup n = some .cell := lookup_of_nth C.nd e1
   obtain ⟨c, hc⟩ := cellsFrom_has cs.names (s.heap.objs.size + 1) [] hkd
   refine bk ?_
   refine ⟨c, y, hc, ?_, vr py⟩
   have := x.cell n c hc
   rwa [bindC_at (by rw [show (cellFi qual cs s.heap.objs.size f cdv).env.kindOf n = some .cell from hkd]; nofun) C.nodup hp hlen, hy] at this
structure FnRecM (f c : Addr) (qual : Str) (params : Arguments) (body : List Stmt) (cs : Scope) (dV kV : Value) : Prop where
 o : ∀ w, ∃ oc od osl name doc pm an ct, (KF w).lookup f = some ⟨oc, od, .func (fnX name qual params body cs [] dV kV doc pm an (.ref c) ct), osl⟩ ∧ codeIn (KF w) (.ref c) qual = true
theorem hkind_of {cs : Scope} {pn : List Str} {m : Nat} {mk : Option (Addr × Str)} (C : Celled cs pn m mk) {ys : List Value} {L : Nat} : ∀ x ∈ pn.zip ys, cs.names.lookup x.1 = some .local ∨ (cs.names.lookup x.1 = some .cell ∧ ((cellsFrom L cs.names []).lookup x.1).isSome = true) := fun x hx => by
 have h1 : x.1 ∈ pn := (List.of_mem_zip (a := x.1) (b := x.2) hx).1
 rw [← C.n] at h1
 refine wg fun P' bk => ?_
 obtain ⟨⟨n, k⟩, hq, hnx⟩ := List.mem_map.mp h1
 have hnx : n = x.1 := hnx
 subst hnx
 have hm := List.mem_of_mem_take hq
 obtain ⟨i, hi, e⟩ := List.getElem_of_mem hm
 have hl : cs.names.lookup x.1 = some k := lookup_of_nth (i := i) C.nd (by rw [List.getElem?_eq_getElem hi, e])
 refine bk ?_
 rcases C.pk _ hq with h | h
 · cases h; exact .inl hl
 · cases h
   refine wg fun P' bk => ?_
   obtain ⟨c, hc⟩ := cellsFrom_has cs.names L [] hl
   refine bk ?_
   exact .inr ⟨hl, by rw [hc]; rfl⟩
theorem fn_of_cells {rm : Nat} {f c : Addr} {qual : Str} {params : Arguments} {body : List Stmt} {cs : Scope} {dV kV : Value} {W : SW} {op : List P → Option P} {pn : List Str} {m : Nat} (B : FnRecM f c qual params body cs dV kV) (hS : SS rm cs body W) (T : TakesPos qual params body cs dV kV pn) (C : Celled cs pn m (some (c, qual))) (hc : c ≠ 148)
   (hW : ∀ xs r, op xs = some r → xs.length = pn.length ∧ W (St.of xs m) (Outs r)) : Fn (rm + 1) f op := fun G s xs ys r A Q hG ok hm hv ho hQ => by
 obtain ⟨oc, od, osl, name, doc, pm, an, ct, hf, hcd⟩ := B.o G.w
 obtain ⟨hxl, hWx⟩ := hW xs r ho
 have hlen : ys.length = pn.length := hv.len.trans hxl
 have K : (KF G.w).In s.heap := fun p o e => ok.stay p o (hG.X p o e)
 have hlim : s.heap.NoLimit := let ⟨mc, n, q⟩ := hG.nolimit; ⟨mc, n.keeps ok.stay, q⟩
 refine wpAny_call (codeAny_call_function (fd := fnX name qual params body cs [] dV kV doc pm an (.ref c) ct) (body := body) (by have := hm.dp; exact m4 ‹_›) (K _ _ hf) rfl C.co C.gen rfl (codeRec_of K hcd) (T name doc pm an (.ref c) ct s ys hlen _ _ _ _ ?_))
 refine wpAny_newFunctionEnv_cells C.k (hkind_of C) fun env he s' x => ?_
 subst he
 refine ⟨hlim.keeps x.toInCall.keep, codeAny_func ?_⟩
 obtain ⟨hΓ, R⟩ := start_cells (G := G.off) (f := f) (cdv := .ref c) (qual := qual) C (fun c' q e => by cases e; exact ⟨rfl, rfl⟩) rfl rfl ok.of hv hxl x
 have hm' : RmG rm (cellFi qual cs s.heap.objs.size f (.ref c)) (A.deeper (cellFi qual cs s.heap.objs.size f (.ref c)).env) := .of ⟨hm.hd, by have := hm.dp; show A.depth + 1 + rm < _; exact m5 ‹_›, by have := hm.un; show A.units + 3 + 10 * rm < _; lia⟩ (by rw [show markOf (cellFi qual cs s.heap.objs.size f (.ref c)).cs = _ from C.mark]; intro h; cases h; exact hc rfl)
 refine wpAny_mono (hS G.off _ [] s _ [] s' _ (Outs r) (fun fl s' => Q (retOf fl) s') hG.off hΓ rfl hWx R hm' fun fl σ' ow' s' fw hPo R' g hf => ?_) (fun fl zz h => by cases fl <;> exact h) fun zz zz h => h.elim
 have pv := outs_view R' hf hPo
 obtain ⟨h', tk, rfl⟩ := R'.sh
 exact hQ _ h' tk pv R'.old R'.ok.off
structure Alo (h : Heap) (ow : List Addr) (cs : Scope) (cl : List (Str × Addr)) (k : Nat) (rest : List (Option V)) : Prop where
 loc : ∀ (i : Nat) x v, cs.names[k + i]? = some (x, .local) → rest[i]? = some (some v) → False
 free : ∀ (i : Nat) x v, cs.names[k + i]? = some (x, .free) → rest[i]? = some (some v) → ∃ c y, cl.lookup x = some c ∧ h.IsCell c (some y) ∧ VR h ow v y
 cells : ∀ x c, cl.lookup x = some c → ∃ v₀, h.IsCell c v₀
 inj : ∀ x y c, cl.lookup x = some c → cl.lookup y = some c → x = y
theorem Alo.keeps {h h' : Heap} {ow : List Addr} {cs : Scope} {cl : List (Str × Addr)} {k : Nat} {rest : List (Option V)} (x : Alo h ow cs cl k rest) (hst : ∀ b o, h.get? b = some o → h'.get? b = some o) : Alo h' ow cs cl k rest :=
 ⟨x.loc, fun i n v e1 e2 => by
   obtain ⟨c, y, q1, q2, q3⟩ := x.free i n v e1 e2
   refine ⟨c, y, q1, q2.keeps hst, ?_⟩
   cases v with
   | p d => exact PV.mono (fun b o e zz zz => hst b o e) (fun zz zz zz k => k) q3
   | own i => exact q3, fun n c e => let ⟨v, q⟩ := x.cells n c e; ⟨v, q.keeps hst⟩, x.inj⟩
theorem hide_get {h : Heap} {ex : List Addr} (T : TabsOk h) (hex : ∀ a ∈ ex, ∃ ys n, h.get? a = some (PySem.W.listOf ys n)) {b : Addr} {o : Obj} (e : h.get? b = some o) (h1 : ∀ vs, o.data ≠ .fields vs) (h2 : ∀ ys n, o ≠ PySem.W.listOf ys n) : (hideAll h (ex ++ tb)).get? b = some o :=
 hideAll_get _ e fun q => by
   rcases List.mem_append.mp q with q | q
   · obtain ⟨ys, n, z⟩ := hex b q
     rw [e] at z; exact h2 ys n (sij z)
   · obtain ⟨vs, z⟩ := tab_data T q e
     exact h1 vs z
theorem Alo.hide {h : Heap} {ex ow : List Addr} {cs : Scope} {cl : List (Str × Addr)} {k : Nat} {rest : List (Option V)} (x : Alo h ow cs cl k rest) (T : TabsOk h) (hex : ∀ a ∈ ex, ∃ ys n, h.get? a = some (PySem.W.listOf ys n)) (hsub : ∀ a ∈ ex, a ∈ ow) : Alo (hideAll h (ex ++ tb)) ow cs cl k rest := by
 have cell : ∀ {c v}, h.IsCell c v → (hideAll h (ex ++ tb)).IsCell c v := fun {c v} ⟨o, e, hd⟩ => ⟨o, hide_get T hex e (by rw [hd]; nofun) (fun ys n z => by rw [z] at hd; cases hd), hd⟩
 refine ⟨x.loc, fun i n v e1 e2 => ?_, fun n c e => let ⟨v, q⟩ := x.cells n c e; ⟨v, cell q⟩, x.inj⟩
 obtain ⟨c, y, q1, q2, q3⟩ := x.free i n v e1 e2
 refine ⟨c, y, q1, cell q2, ?_⟩
 cases v with
 | own i => exact q3
 | p d =>
   refine PV.mono (fun b o e ⟨vs, m, hd⟩ hc => hideAll_get _ e fun q => ?_) (fun zz zz zz k => k) q3
   rcases List.mem_append.mp q with q | q
   · obtain ⟨ys, n, z⟩ := hex b q
     rw [e] at z; obtain rfl := sij z
     rcases hc with hc | ⟨_, hc⟩
     · exact absurd (show (Value.type "list") = .type "tuple" from hc) (by simp)
     · exact hc (hsub b q)
   · obtain ⟨vs', z⟩ := tab_data T q e
     rw [hd] at z; cases z
noncomputable def cloOne (cs : Scope) (y : Str) : NameKind → Option Nat → Bool
 | .free => fun o => o.any fun i => decide (cs.names[i]? = some (y, .cell))
 | .local => Option.isNone
 | .globalImplicit => Option.isNone
 | _ => fun zz => false
noncomputable def cloGo (cs : Scope) : List (Str × NameKind) → List (Option Nat) → Bool
 | [] => List.isEmpty
 | p :: r => fun os => match os with
   | [] => false
   | o :: os => cloOne cs p.1 p.2 o && cloGo cs r os
theorem clo_at {cs : Scope} : ∀ {l : List (Str × NameKind)} {os : List (Option Nat)} {j : Nat} {y : Str} {k : NameKind}, cloGo cs l os = true → l[j]? = some (y, k) → (k = .free ∧ ∃ i, os[j]? = some (some i) ∧ cs.names[i]? = some (y, .cell)) ∨ (k ≠ .free ∧ os[j]? = some none) := by
 intro l
 induction l with
 | nil => intro os j y k _ h; simp at h
 | cons p l ih =>
   intro os j y k hb h
   obtain ⟨y', k'⟩ := p
   cases os with
   | nil => cases hb
   | cons o os =>
     have hb : (cloOne cs y' k' o && cloGo cs l os) = true := hb
     obtain ⟨h1, h2⟩ := Bool.and_eq_true_iff.mp hb
     cases j with
     | zero =>
       obtain ⟨rfl, rfl⟩ := Prod.mk.inj (sij h)
       cases k' <;> cases o <;> first | exact .inr ⟨by decide, rfl⟩ | exact .inl ⟨rfl, _, rfl, of_decide_eq_true h1⟩ | cases h1
     | succ j => exact ih (os := os) (j := j) h2 h
structure CloSc (cs ics : Scope) (pn : List Str) (idxs : List (Option Nat)) : Prop where
 C : NoCell ics pn
 go : cloGo cs (ics.names.drop pn.length) idxs = true
theorem CloSc.free {cs ics : Scope} {pn : List Str} {idxs : List (Option Nat)} (B : CloSc cs ics pn idxs) {y : Str} (h : (y, NameKind.free) ∈ ics.names) : ∃ i : Nat, cs.names[i]? = some (y, NameKind.cell) := by
 obtain ⟨n, hn, e⟩ := List.getElem_of_mem h
 have e' : ics.names[n]? = some (y, .free) := by rw [List.getElem?_eq_getElem hn, e]
 by_cases hl : n < pn.length
 · have h2 : (ics.names.take pn.length)[n]? = some (y, .free) := by rw [List.getElem?_take, if_pos hl]; exact e'
   rw [B.C.n] at h2
   simp only [List.getElem?_map, Option.map_eq_some_iff, Prod.mk.injEq] at h2
   obtain ⟨z, _, _, h5⟩ := h2
   cases h5
 · rcases clo_at (j := n - pn.length) B.go (by rw [List.getElem?_drop, Nat.add_sub_cancel' (Nat.le_of_not_lt hl)]; exact e') with ⟨_, i, _, q⟩ | ⟨q, _⟩
   · exact ⟨i, q⟩
   · exact absurd rfl q
section
variable {G : Gd} {Γ : Fi} {mu : List Addr} {s₀ s : Shared} {σ : St} {ow : List Addr} {A : Around} {cs ics : Scope} {pn : List Str} {idxs : List (Option Nat)}
theorem clo_frame (B : CloSc cs ics pn idxs) (hΓ : Γ.Ok G mu s₀.heap) (hc : Γ.cs = cs) (R : Rp G Γ mu s₀ σ ow s) : closureFor ics Γ.env = pure (clOf Γ ics) ∧ Alo s.heap ow ics (clOf Γ ics) pn.length (restOf idxs σ) := by
 subst hc
 have hf : ∀ y, (y, NameKind.free) ∈ ics.names → Γ.cl.lookup y = some ((Γ.cl.lookup y).getD 0) ∧ ∃ v₀, s.heap.IsCell ((Γ.cl.lookup y).getD 0) v₀ := fun y hy => by
   obtain ⟨i, hi⟩ := B.free hy
   obtain ⟨c, hc⟩ := hΓ.cc y (hΓ.kd hi)
   rw [hc]
   exact ⟨rfl, R.cells y c hc⟩
 have L := fun {x c} => closure_lookup (x := x) (c := c) B.C.nd (fun y => (Γ.cl.lookup y).getD 0)
 refine ⟨closureFor_eq (fun y => (Γ.cl.lookup y).getD 0) fun y hy => (hf y hy).1, fun i x v e1 e2 => ?_, fun i x v e1 e2 => ?_, fun x c e => ?_, fun x y c e e' => ?_⟩
 · rcases clo_at (j := i) B.go (by rw [List.getElem?_drop]; exact e1) with ⟨q, _⟩ | ⟨_, q⟩
   · cases q
   · simp [restOf, q] at e2
 · rcases clo_at (j := i) B.go (by rw [List.getElem?_drop]; exact e1) with ⟨_, j, q1, q2⟩ | ⟨q, _⟩
   · simp only [restOf, List.getElem?_map, q1, Option.map_some, Option.some.injEq, Option.bind_some] at e2
     obtain ⟨c, w, p1, p2, p3⟩ := R.c j x .cell v q2 (.inl rfl) (join_some e2)
     refine ⟨c, w, L.mpr ⟨List.mem_of_getElem? e1, ?_⟩, p2, p3⟩
     rw [p1]; rfl
   · exact absurd rfl q
 · obtain ⟨h1, rfl⟩ := L.mp e
   exact (hf x h1).2
 · obtain ⟨h1, rfl⟩ := L.mp e
   obtain ⟨h2, e2⟩ := L.mp e'
   exact hΓ.cd x y _ (hf x h1).1 (e2 ▸ (hf y h2).1)
theorem Rp.off_func (R : Rp G Γ mu s₀ σ ow s) {F : Addr} {ob : Obj} {fd : FuncData} (hb : s.heap.get? F = some ob) (hd : ob.data = .func fd) : ¬ Ft Γ ow F := by
 rintro (h | h | h | ⟨x, h1, h2⟩)
 · obtain ⟨m, ⟨oL, es, ep, e, hd', _⟩, _⟩ := R.m
   subst h; rw [hb] at e; cases e; rw [hd] at hd'; cases hd'
 · obtain ⟨ys, k, e⟩ := R.own_obj h
   rw [hb] at e; cases e; cases hd
 · obtain ⟨vs, q⟩ := tab_data R.ok.tabs h hb
   rw [hd] at q; cases q
 · obtain ⟨v₀, oc, e, hd'⟩ := R.cells x F h2
   rw [hb] at e; cases e; rw [hd] at hd'; cases hd'
theorem CodeRec.go {h h' : Heap} {cv : Value} {q : Str} (x : h.CodeRec cv q) (k : ∀ b o, h.get? b = some o → (∃ vs, o.data = .fields vs ∧ ∃ t, vs[1]? = some (.str q t)) → h'.get? b = some o) : h'.CodeRec cv q := by
 obtain ⟨c, o, vs, t, e1, e2, e3, e4⟩ := x
 exact ⟨c, o, vs, t, e1, k c o e2 ⟨vs, e3, t, e4⟩, e3, e4⟩
theorem Rp.off_rec (R : Rp G Γ mu s₀ σ ow s) {b : Addr} {ob : Obj} {vs : Array Value} {q : Str} {t : Tok} (hb : s.heap.get? b = some ob) (hd : ob.data = .fields vs) (h1 : vs[1]? = some (.str q t)) : ¬ Ft Γ ow b := by
 rintro (h | h | h | ⟨x, h1, h2⟩)
 · obtain ⟨m, ⟨oL, es, ep, e, hd', _⟩, _⟩ := R.m
   subst h; rw [hb] at e; cases e; rw [hd] at hd'; cases hd'
 · obtain ⟨ys, k, e⟩ := R.own_obj h
   rw [hb] at e; cases e; cases hd
 · have key : ∀ r ∈ tq, b = r.1 → False := fun r hr hc => by
     obtain ⟨ps, hp, ht, _⟩ := R.ok.tabs r hr
     rw [← hc, hb] at hp
     cases hp; cases hd
     exact triples_no_str ht q t (by rw [Array.getElem?_toList]; exact h1)
   simp only [tb, List.mem_cons, List.not_mem_nil, or_false] at h
   rcases h with rfl | rfl | rfl | rfl
   · exact key _ (.head _) rfl
   · exact key _ (.tail _ (.head _)) rfl
   · exact key _ (.tail _ (.tail _ (.head _))) rfl
   · exact key _ (.tail _ (.tail _ (.tail _ (.head _)))) rfl
 · obtain ⟨v₀, oc, e, hd'⟩ := R.cells x b h2
   rw [hb] at e; cases e; rw [hd] at hd'; cases hd'
theorem def_go {Q : Flow → Shared → Prop} (i : Nat) {x : Str} {c P : Addr} {cn : Str} {params : Arguments} {ibody : List Stmt} {pos : Pos} {clos : List (Str × Addr)} (hP : (c, P) ∈ tbs) (hq : (P, cn ++ Str.ofString ".<locals>." ++ x) ∈ tq) (hm : markOf Γ.cs = some (c, cn)) (hcl : closureFor ics Γ.env = pure clos)
   (hkw : params.kwonlyargs = []) (hd : ∀ env, defaultsOf params env = ([], [])) (ha : ∀ env, annTrees params none env = []) (hx : Γ.cs.names[i]? = some (x, .cell)) (hG : G.Ok) (hΓ : Γ.Ok G mu s₀.heap) (R : Rp G Γ mu s₀ σ ow s)
   (hQ : ∀ F doc pm cdv ct s', Rp G Γ mu s₀ (σ.put i (.p (.raw (.ref F)))) ow s' → Go Γ ow s ow s' → s'.heap.get? F = some { cls := .type "function", data := .func (fnX x (cn ++ Str.ofString ".<locals>." ++ x) params ibody ics clos .none .none doc pm none cdv ct) } → s'.heap.CodeRec cdv (cn ++ Str.ofString ".<locals>." ++ x) → Q .next s') :
   wpAny (model PG G.w) A (exec (.FunctionDef x params ibody [] none [] ics none x pos) Γ.env) Q NoE s := by
 obtain ⟨hcd, hcn⟩ := hΓ.mark c cn hm
 rw [exec_def, hd, ha]
 refine wpAny_bind (wpAny_standAt (wpAny_bind (wpAny_holding ?_)))
 refine wpAny_bind (wpAny_pure (wpAny_bind (wpAny_holding (wpAny_pure ?_))))
 refine wpAny_holding (wpAny_bind (wpAny_pure ?_))
 have hqq : qualnameIn Γ.env x x = cn ++ Str.ofString ".<locals>." ++ x := by
   unfold qualnameIn
   rw [show Γ.env.kindOf x = some .cell from hΓ.kd hx, ← hcn]
   rfl
 rw [hqq]
 refine mk_fun (cn := cn) hP hq hcd hcl hG R.ok fun F doc pm cdv ct h' tk o ok hF hrec hsz => ?_
 have R₁ := R.step tk o ok
 refine wpAny_bind (wpAny_standAt (wpAny_bind (wpAny_bindName ?_)))
 refine store_of i R₁ hΓ hx (.inr rfl) (v := .p (.raw (.ref F))) rfl fun s' R' g => wpAny_pure ?_
 have g₀ : Go Γ ow s ow { s with heap := h', toks := tk } := Go.of_old (s' := { s with heap := h', toks := tk }) o ok
 refine hQ F doc pm cdv ct s' R' (g₀.trans g) (g.ext F _ (R₁.off_func hF rfl) hF) ?_
 obtain ⟨c', o', vs, t, e1, e2, e3, e4⟩ := hrec
 exact ⟨c', o', vs, t, e1, g.ext c' o' (R₁.off_rec e2 e3 e4) e2, e3, e4⟩
end
section
variable {G : Gd} {hb : Heap} {F lst : Addr} {name qual : Str} {params : Arguments} {ibody : List Stmt} {ics : Scope} {doc pm cdv ct : Value} {cl : List (Str × Addr)} {Wb : Nat → SW} {pn : List Str} {rest : List (Option V)} {n0 : Nat}
theorem kam_clo {kam : Nat → List P → List P → Option (List P)} (hG : G.Ok) (ok : G.at hb) (hl0 : G.h₀.get? lst = none) (hl : ∃ ys n, hb.get? lst = some (PySem.W.listOf ys n)) (hF : hb.get? F = some { cls := .type "function", data := .func (fnX name qual params ibody ics cl .none .none doc pm none cdv ct) }) (hcd : hb.CodeRec cdv qual) (C : NoCell ics pn) (hS : ∀ rm, SS rm ics ibody (Wb rm))
   (T : ∀ (s : Shared) (ys : List Value), ys.length = pn.length → BindsTo s (fnX name qual params ibody ics cl .none .none doc pm none cdv ct) ⟨ys, []⟩ (pn.zip ys)) (al : Alo hb [lst] ics cl pn.length rest) (k0 : ∀ ps xs, kam 0 ps xs = none)
   (hk : ∀ k ps xs xs', kam (k + 1) ps xs = some xs' → ps.length = pn.length ∧ noLsts xs' = true ∧ Wb (k + n0) ⟨ps.map (fun x => some (.p x)) ++ rest, [xs], ⟨F, k + n0, fun zz => none, true, lst, kam k⟩⟩ (fun fl σ => Outs .none fl σ ∧ σ.own[0]? = some xs')) :
   ∀ k, (G.up hb [lst] ⟨F, k + n0, fun zz => none, true, lst, kam k⟩).Ok := by
 have T₀ := ok.tabs
 have hex : ∀ a ∈ [lst], ∃ ys n, hb.get? a = some (PySem.W.listOf ys n) := fun a ha => by rw [List.mem_singleton.mp ha]; exact hl
 have hx : ∀ a ∈ [lst], G.h₀.get? a = none := fun a ha => by rw [List.mem_singleton.mp ha]; exact hl0
 have hF' : (hideAll hb ([lst] ++ tb)).get? F = some { cls := .type "function", data := .func (fnX name qual params ibody ics cl .none .none doc pm none cdv ct) } := hide_get T₀ hex hF nofun (fun ys n z => by have := congrArg Obj.data z; cases this)
 have hcd' : (hideAll hb ([lst] ++ tb)).CodeRec cdv qual := by
   obtain ⟨c, o, vs, t, e1, e2, e3, e4⟩ := hide_rec T₀ hcd
   refine ⟨c, o, vs, t, e1, ?_, e3, e4⟩
   have e2' : hb.get? c = some o := of_hideAll _ e2
   refine hideAll_get _ e2' fun z => ?_
   rcases List.mem_append.mp z with z | z
   · obtain ⟨ys, n, q⟩ := hex c z
     rw [e2'] at q; cases q; cases e3
   · have := hideAll_none (h := hb) ([] ++ tb) (b := c) z
     rw [this] at e2; cases e2
 have al' := al.hide T₀ hex fun a h => h
 have mk : ∀ ky : Ky, (G.up hb [lst] ky).KeyAt → (G.up hb [lst] ky).KamAt → ky.a = F → (G.up hb [lst] ky).Ok := fun ky k1 k2 ha => Gd.up_ok hG ok hx k1 k2 fun zz => ⟨_, _, by rw [ha]; exact hF', rfl⟩
 intro k
 induction k with
 | zero => exact mk _ (by intro s A ps ys r Q _ _ _ h; cases h) (by intro s A ps ys xs us n xs' Q _ _ _ _ _ _ h; have h' : kam 0 ps xs = some xs' := h; rw [k0] at h'; cases h') rfl
 | succ k ih =>
   refine mk _ (by intro s A ps ys r Q _ _ _ h; cases h) ?_ rfl
   intro s A ps ys xs us n xs' Q _ at' hm hv el pu hkam hQ
   obtain ⟨hpl, hnl, hW⟩ := hk k ps xs xs' hkam
   have als := al'.keeps at'.stay
   have hlt : lst < s.heap.objs.size := Heap.lt_size el
   have Bs : Base (G.up hb [lst] ⟨F, k + n0, fun zz => none, true, lst, kam k⟩) s.heap ics cl pn.length rest [lst] [lst] [xs] := ⟨als.loc, als.free, als.cells, als.inj, (fun i a zs e1 e2 => by
       cases i with
       | zero =>
         have e1' : some lst = some a := e1
         have e2' : some xs = some zs := e2
         obtain rfl := sij e1'; obtain rfl := sij e2'
         exact ⟨us, n, el, pu.mono (fun b o e zz zz => e) fun b o e k z => k (List.mem_singleton.mp z)⟩
       | succ i => simp at e1), rfl, by simp, fun a ha => ha, (fun a ha => by rw [List.mem_singleton.mp ha]; exact hlt), (fun b o e z => by
         rw [List.mem_singleton.mp z] at e
         rw [show (G.up hb [lst] ⟨F, k + n0, fun zz => none, true, lst, kam k⟩).h₀.get? lst = none from hideAll_none _ (by simp)] at e
         cases e), fun zz => rfl⟩
   have hlen : ys.length = pn.length := hv.len.trans hpl
   have e : (k + 1 + n0) = k + n0 + 1 := by lia
   have hm' : Rm (k + n0 + 1) A := by rw [← e]; exact hm
   refine clo_enter (G := G.up hb [lst] ⟨F, k + n0, fun zz => none, true, lst, kam k⟩) (rm := k + n0) ih (hS _) C (at'.stay _ _ hF') (hcd'.keeps at'.stay) Bs (T s ys hlen) ⟨at'.stay, at'.tabs⟩ hm' (hv.mono (fun b o e zz zz => e) fun b o e k z => k (List.mem_singleton.mp z)) hpl hW fun Γ fl σ' ow' s' fw hPo R' hpre hf => ?_
   obtain ⟨hout, hown⟩ := hPo
   have hret : retOf fw = .none := by
     cases fl with
     | next => cases hf; rfl
     | brk => exact (hout : False).elim
     | cont => exact (hout : False).elim
     | ret v =>
       obtain ⟨y, rfl, vy⟩ := hf
       have hr : outP σ' v = some .none := hout
       cases v with
       | p x =>
         simp only [outP, Option.ite_none_right_eq_some, Option.some.injEq] at hr
         obtain ⟨_, rfl⟩ := hr
         exact vy
       | own i =>
         obtain ⟨zs, hz, hr⟩ := Option.bind_eq_some_iff.mp hr
         simp only [Option.ite_none_right_eq_some, Option.some.injEq] at hr
         exact absurd hr.2 (by simp)
   rw [hret]
   have h0 : ow'[0]? = some lst := R'.kl rfl
   obtain ⟨us', n', el', pu'⟩ := R'.own 0 lst xs' h0 hown
   have o' := R'.old
   obtain ⟨h', tk, rfl⟩ := R'.sh
   refine hQ h' tk us' n' (fun b o hn e => o' b o (fun z => ?_) e) el' (PVs.any hnl pu') ⟨R'.ok.stay, R'.ok.tabs⟩
   rcases List.mem_append.mp z with z | z
   · exact hn (.tail _ z)
   · rw [List.mem_singleton.mp z] at hn; exact hn (.head _)
theorem kap_clo {kap : Nat → List P → Option P} (hG : G.Ok) (ok : G.at hb) (hF : hb.get? F = some { cls := .type "function", data := .func (fnX name qual params ibody ics cl .none .none doc pm none cdv ct) }) (hcd : hb.CodeRec cdv qual) (C : NoCell ics pn) (hS : ∀ rm, SS rm ics ibody (Wb rm))
   (T : ∀ (s : Shared) (ys : List Value), ys.length = pn.length → BindsTo s (fnX name qual params ibody ics cl .none .none doc pm none cdv ct) ⟨ys, []⟩ (pn.zip ys)) (al : Alo hb [] ics cl pn.length rest) (k0 : ∀ ps, kap 0 ps = none)
   (hk : ∀ k ps r, kap (k + 1) ps = some r → ps.length = pn.length ∧ Wb (k + n0) ⟨ps.map (fun x => some (.p x)) ++ rest, [], ⟨F, k + n0, kap k, false, 0, fun zz zz => none⟩⟩ (Outs r)) :
   ∀ k, (G.up hb [] ⟨F, k + n0, kap k, false, 0, fun zz zz => none⟩).Ok := by
 have T₀ := ok.tabs
 have hx : ∀ a ∈ ([] : List Addr), G.h₀.get? a = none := fun a ha => by simp at ha
 have hF' : (hideAll hb ([] ++ tb)).get? F = some { cls := .type "function", data := .func (fnX name qual params ibody ics cl .none .none doc pm none cdv ct) } := hide_data T₀ hF nofun
 have hcd' := hide_rec T₀ hcd
 have al' := al.hide (ex := []) T₀ (fun a ha => by simp at ha) fun a h => h
 have mk : ∀ ky : Ky, (G.up hb [] ky).KeyAt → (G.up hb [] ky).KamAt → ky.a = F → (G.up hb [] ky).Ok := fun ky k1 k2 ha => Gd.up_ok hG ok hx k1 k2 fun zz => ⟨_, _, by rw [ha]; exact hF', rfl⟩
 intro k
 induction k with
 | zero => exact mk _ (by intro s A ps ys r Q _ _ _ h; have h' : kap 0 ps = some r := h; rw [k0] at h'; cases h') (by intro s A ps ys xs us n xs' Q h; cases h) rfl
 | succ k ih =>
   refine mk _ ?_ (by intro s A ps ys xs us n xs' Q h; cases h) rfl
   intro s A ps ys r Q at' hm hv hkap hQ
   obtain ⟨hpl, hW⟩ := hk k ps r hkap
   have als := al'.keeps at'.stay
   have Bs : Base (G.up hb [] ⟨F, k + n0, kap k, false, 0, fun zz zz => none⟩) s.heap ics cl pn.length rest [] [] [] := ⟨als.loc, als.free, als.cells, als.inj, fun i a zs e1 e2 => by simp at e1, rfl, by simp, fun a ha => ha, fun a ha => by simp at ha, fun b o e => by simp, fun h => by cases h⟩
   have hlen : ys.length = pn.length := hv.len.trans hpl
   have e : (k + 1 + n0) = k + n0 + 1 := by lia
   have hm' : Rm (k + n0 + 1) A := by rw [← e]; exact hm
   refine clo_enter (G := G.up hb [] ⟨F, k + n0, kap k, false, 0, fun zz zz => none⟩) (rm := k + n0) ih (hS _) C (at'.stay _ _ hF') (hcd'.keeps at'.stay) Bs (T s ys hlen) ⟨at'.stay, at'.tabs⟩ hm' (hv.mono (fun b o e zz zz => e) fun b o e k => by simp) hpl hW fun Γ fl σ' ow' s' fw hPo R' hpre hf => ?_
   have pv := outs_view R' hf hPo
   have o' := R'.old
   obtain ⟨h', tk, rfl⟩ := R'.sh
   exact hQ _ h' tk pv (fun b o hn e => o' b o (by simpa using hn) e) ⟨R'.ok.stay, R'.ok.tabs⟩
end
noncomputable def W_i2d (rm : Nat) : SW := (wSeq (wIf (cB (lift2 eqP (lift2 addP (cV 1) (cK (.int 1))) (cV 2))) (wSeq (wSetAt (cV 7) (cV 1) (cV 0)) (wSeq (wRet (cK .none)) wNil)) wNil) (wSeq (wSet 3 (lift2 shrP (lift2 addP (cV 1) (cV 2)) (cK (.int 1)))) (wSeq (wSet 4 (lift2 mulP (lift2 subP (cV 3) (cV 1)) (cV 9))) (wSeq (wSet 5 (lift2 shrP (cV 0) (cV 4))) (wSeq (wSet 6 (lift2 xorP (cV 0) (lift2 shlP (cV 5) (cV 4)))) (wSeq (wKam rm (cV 8) (cCons (cV 6) (cCons (cV 1) (cCons (cV 3) cNil)))) (wSeq (wKam rm (cV 8) (cCons (cV 5) (cCons (cV 3) (cCons (cV 2) cNil)))) wNil)))))))
noncomputable def W_d2i (rm : Nat) : SW := (wSeq (wIf (cB (lift2 eqP (lift2 addP (cV 0) (cK (.int 1))) (cV 1))) (wSeq (wRet (cSub (cV 4) (cV 0))) wNil) wNil) (wSeq (wSet 2 (lift2 shrP (lift2 addP (cV 0) (cV 1)) (cK (.int 1)))) (wSeq (wSet 3 (lift2 mulP (lift2 subP (cV 2) (cV 0)) (cV 6))) (wSeq (wRet (lift2 addP (lift2 shlP (cKey rm (cV 5) (cCons (cV 2) (cCons (cV 1) cNil))) (cV 3)) (cKey rm (cV 5) (cCons (cV 0) (cCons (cV 2) cNil))))) wNil))))
noncomputable abbrev pnI : List Str := [Str.ofString "x", Str.ofString "L", Str.ofString "R"]
noncomputable abbrev pnD : List Str := [Str.ofString "L", Str.ofString "R"]
noncomputable abbrev xI : Str := Str.ofString "inner"
noncomputable def TakesI (qual : Str) (params : Arguments) (ibody : List Stmt) (ics : Scope) (pn : List Str) : Prop :=
 ∀ (clos : List (Str × Addr)) (doc pm cdv ct : Value) (s : Shared) (ys : List Value), ys.length = pn.length → BindsTo s (fnX xI qual params ibody ics clos .none .none doc pm none cdv ct) ⟨ys, []⟩ (pn.zip ys)
section
variable {rm : Nat} {cs ics : Scope} {params : Arguments} {ibody : List Stmt}
theorem kam_call {G G' : Gd} {Γ : Fi} {mu : List Addr} {s₀ s₂ : Shared} {σ : St} {ow : List Addr} {A : Around} {Q : Value → Shared → Prop} {ps xs xs' : List P} {ys : List Value} (R₂ : Rp G Γ mu s₀ σ ow s₂) (hw : G'.w = G.w) (hat : G'.at s₂.heap) (hup : ∀ h', G'.at h' → G.at h') (hon : G'.ky.on = true) (hn : G'.ky.n ≤ rm) (hm : Rm rm A)
   (ha : ow[0]? = some G'.ky.lst) (hx : σ.own[0]? = some xs) (K : G'.Ok) (pv : PVs (· ∉ ow) s₂.heap ps ys) (n1 : noLsts ps = true) (n2 : noLsts xs = true) (n3 : noLsts xs' = true) (hk : G'.ky.kam ps xs = some xs')
   (hQ : ∀ s₃, Rp G Γ mu s₀ (σ.set 0 xs') ow s₃ → Go Γ ow s₂ ow s₃ → Q .none s₃) : wpAny (model PG G.w) A (call (.ref G'.ky.a) ys) Q NoE s₂ := by
 refine wg fun P' bk => ?_
 obtain ⟨a, us, n, ha', el, pu⟩ := R₂.own_at hx
 refine bk ?_
 rw [ha] at ha'; obtain rfl := sij ha'
 rw [← hw]
 refine K.kam s₂ A ps ys xs us n xs' _ hon hat (hm.mono hn) (PVs.any n1 pv) el (PVs.any n2 pu) hk fun h' tk us' n' o' el' pu' ok' => ?_
 have hmem := List.mem_of_getElem? ha
 have ok₃ : G.at h' := hup h' ok'
 have o₃ : Old (ow ++ tb) s₂.heap h' := fun b ob hb e => o' b ob (fun z => by
   rcases List.mem_cons.mp z with z | z
   · rw [z] at hb; exact hb (List.mem_append_left _ hmem)
   · exact hb (List.mem_append_right _ z)) e
 refine wg fun P' bk => ?_
 obtain ⟨R₃, g₃⟩ := R₂.lent tk (own' := σ.own.set 0 xs') o₃ ok₃ (by simp) fun i b zs e1 e2 => by
   by_cases hi : i = 0
   · subst hi
     rw [ha] at e1; obtain rfl := sij e1
     have h0 : 0 < σ.own.length := (List.getElem?_eq_some_iff.mp hx).1
     rw [List.getElem?_set_self h0] at e2; obtain rfl := sij e2
     exact ⟨us', n', el', PVs.any n3 pu'⟩
   · rw [List.getElem?_set_ne (Ne.symm hi)] at e2
     obtain ⟨ys', k, q, p'⟩ := R₂.own i b zs e1 e2
     have hne : b ≠ G'.ky.lst := fun z => hi (nodup_idx R₂.nd (z ▸ e1) ha)
     exact ⟨ys', k, o' b _ (fun z => by
       rcases List.mem_cons.mp z with z | z
       · exact hne z
       · exact (R₂.own_off (List.mem_of_getElem? e1)).1 z) q, p'.mono (R₂.kp o₃) fun zz zz zz k => k⟩
 refine bk ?_
 exact hQ _ R₃ g₃
noncomputable def wI2 (rm : Nat) (kam : Int → Nat → List P → List P → Option (List P)) (c : St → Option Bool) (fs : St → Option (List V)) : SW := fun σ Po => ∃ n xs xs' K b, σ.vals[1]? = some (some (.p (.int n))) ∧ σ.vals[2]? = some (some (.own 0)) ∧ σ.vals.length = 5 ∧ σ.own = [xs] ∧ noLsts xs = true ∧ noLsts xs' = true ∧ K ≤ rm ∧
 ∀ F, c (σ.put 3 (.p (.raw (.ref F)))) = some b ∧ (if b = true then ∃ ps, fs (σ.put 3 (.p (.raw (.ref F)))) = some (ps.map .p) ∧ noLsts ps = true ∧ kam n K ps xs = some xs' else xs' = xs) ∧ Po (.ret (.own 0)) ((σ.put 3 (.p (.raw (.ref F)))).set 0 xs')
theorem SS_i2d {a e : PySem.Expr} {es : List PySem.Expr} {dp ip ep cpos p rp rp' : Pos} {c : St → Option Bool} {fs : St → Option (List V)} {kam : Int → Nat → List P → List P → Option (List P)} (hmk : markOf cs = some (34, Str.ofString "_int2digits"))
   (n2 : cs.names[2]? = some (Str.ofString "a_digits", .cell)) (n3 : cs.names[3]? = some (xI, .cell)) (CS : CloSc cs ics pnI [none, none, none, none, some 2, some 3, some 1]) (hI : ∀ rm, SS rm ics ibody (W_i2d rm)) (hT : TakesI (Str.ofString "_int2digits" ++ Str.ofString ".<locals>." ++ xI) params ibody ics pnI)
   (hkw : params.kwonlyargs = []) (hd : ∀ env, defaultsOf params env = ([], [])) (han : ∀ env, annTrees params none env = []) (hc : CT rm cs a c) (hs : ESs rm cs (e :: es) fs) (he : ∀ env, starEach (e :: es) env = (false, eval e env) :: starEach es env)
   (hsw : ∀ env : Env, swapsWith (.Call (.Name xI p) (e :: es) [] cpos) none ep.line env = pure false) (k0 : ∀ n ps xs, kam n 0 ps xs = none)
   (hk : ∀ n F lst k ps xs xs', kam n (k + 1) ps xs = some xs' → ps.length = 3 ∧ noLsts xs' = true ∧ W_i2d k ⟨ps.map (fun x => some (.p x)) ++ [none, none, none, none, some (.own 0), some (.p (.raw (.ref F))), some (.p (.int n))], [xs], ⟨F, k, fun zz => none, true, lst, kam n k⟩⟩ (fun fl σ => Outs .none fl σ ∧ σ.own[0]? = some xs')) :
   SS rm cs [.FunctionDef xI params ibody [] none [] ics none xI dp, .If a [.Expr (.Call (.Name xI p) (e :: es) [] cpos) ep] [] ip, .Return (some (.Name (Str.ofString "a_digits") rp)) rp'] (wI2 rm kam c fs) := fun G Γ mu s₀ σ ow s A Po Q hG hΓ hcs hW R hm hQ => by
 refine wg fun P' bk => ?_
 obtain ⟨n, xs, xs', K, b, v1, v2, vl, hown, nx, nx', hK, hrest⟩ := hW
 subst hcs
 refine bk ?_
 refine wpAny_execs_cons (def_go (c := 34) (P := 30) (cn := Str.ofString "_int2digits") 3 (by decide) (by decide) hmk (clo_frame CS hΓ rfl R).1 hkw hd han n3 hG hΓ R fun F doc pm cdv ct s₁ R₁ g₁ hF hrec => ?_)
 refine wg fun P' bk => ?_
 obtain ⟨hcb, hif, hPo⟩ := hrest F
 have own1 : (σ.put 3 (.p (.raw (.ref F)))).own[0]? = some xs := by show σ.own[0]? = _; rw [hown]; rfl
 have fin : ∀ s₃, Rp G Γ mu s₀ ((σ.put 3 (.p (.raw (.ref F)))).set 0 xs') ow s₃ → Go Γ ow s ow s₃ → wpAny (model PG G.w) A (execs [.Return (some (.Name (Str.ofString "a_digits") rp)) rp'] Γ.env) Q NoE s₃ := fun s₃ R₃ g₃ => by
   refine wpAny_execs_cons (wpAny_Return_some ?_)
   refine ES_var (rm := rm) 2 n2 (.inr (.inl rfl)) rfl G Γ mu s₀ _ ow s₃ (.own 0) A _ hG hΓ rfl ?_ R₃ hm fun y s₄ vy R₄ o₄ => ?_
   · simp only [cV, St.set, St.put, List.getElem?_set_ne (show (3 : Nat) ≠ 2 by decide), v2]; rfl
   · exact hQ (.ret (.own 0)) _ ow s₄ _ hPo R₄ (g₃.trans (Go.of_old o₄ R₄.ok)) ⟨y, rfl, vy⟩
 refine bk ?_
 refine wpAny_execs_cons (wpAny_If (hc G Γ mu s₀ _ ow s₁ b A _ hG hΓ rfl hcb R₁ hm fun s₂ R₂ o₂ => ?_))
 have g₂ : Go Γ ow s₁ ow s₂ := Go.of_old o₂ R₂.ok
 cases b with
 | false =>
   simp only [Bool.false_eq_true, if_false] at hif ⊢
   subst hif
   refine wpAny_execs_nil (fin s₂ ?_ (g₁.trans g₂))
   have : (σ.put 3 (.p (.raw (.ref F)))).set 0 xs' = σ.put 3 (.p (.raw (.ref F))) := by
     simp only [St.set, St.put, hown]; rfl
   rw [this]; exact R₂
 | true =>
   simp only [if_true] at hif ⊢
   refine wg fun P' bk => ?_
   obtain ⟨ps, hfs, hnl, hkam⟩ := hif
   obtain ⟨lst, us, m, ha, el, pu⟩ := R₂.own_at own1
   have hF₂ := g₂.ext F _ (R₁.off_func hF rfl) hF
   obtain ⟨o, fd, ho, hdf⟩ : ∃ o fd, s₂.heap.get? F = some o ∧ o.data = .func fd := ⟨_, _, hF₂, rfl⟩
   refine bk ?_
   refine wpAny_execs_cons (wpAny_exprNone ?_ (inter hΓ) (hsw _))
   with_reducible refine wpAny_Call_NameR ?_
   refine ES_var (rm := rm) 3 n3 (.inr (.inl rfl)) rfl G Γ mu s₀ _ ow s₂ (.p (.raw (.ref F))) A _ hG hΓ rfl ?_ R₂ hm fun fv s₃ vf R₃ o₃ => ?_
   · simp only [cV, St.put, List.getElem?_set_self (show 3 < σ.vals.length by lia)]; rfl
   cases vf
   with_reducible refine callWith_def (o := o) (fd := fd) hdf ?_ (he _)
   refine hs G Γ mu s₀ _ ow s₃ _ A _ _ hG hΓ rfl hfs R₃ hm fun ys s₄ rs R₄ o₄ => ?_
   have g₄ : Go Γ ow s₁ ow s₄ := (g₂.trans (Go.of_old (o₃.trans o₄) R₄.ok))
   have hF₄ := g₄.ext F _ (R₁.off_func hF rfl) hF
   have hrec₄ : s₄.heap.CodeRec cdv (Str.ofString "_int2digits" ++ Str.ofString ".<locals>." ++ xI) := by
     obtain ⟨c', o', vs, t, e1, e2, e3, e4⟩ := hrec
     exact ⟨c', o', vs, t, e1, g₄.ext c' o' (R₁.off_rec e2 e3 e4) e2, e3, e4⟩
   refine ⟨by rw [hF₂] at ho; obtain rfl := sij ho; exact hF₄, ?_⟩
   have hlow : ow = [lst] := by
     have hl : ow.length = 1 := by rw [R.len, hown]; rfl
     obtain ⟨b, e⟩ := List.length_eq_one_iff.mp hl
     rw [e] at ha ⊢
     rw [sij ha]
   have hl0 : G.h₀.get? lst = none := by
     cases q : G.h₀.get? lst with
     | none => rfl
     | some ob =>
       refine wg fun P' bk => ?_
       obtain ⟨q1, q2⟩ := hΓ.g0 _ _ q
       refine bk ?_
       rcases R.owf lst (List.mem_of_getElem? ha) with h | h
       · exact absurd q1 (Nat.not_lt.mpr h)
       · exact absurd h q2
   refine wg fun P' bk => ?_
   obtain ⟨lst', us', m', ha', el', pu'⟩ := R₄.own_at own1
   refine bk ?_
   rw [ha] at ha'; obtain rfl := sij ha'
   have al := (clo_frame CS hΓ rfl R₄).2
   have hrv : restOf [none, none, none, none, some 2, some 3, some 1] (σ.put 3 (.p (.raw (.ref F)))) = [none, none, none, none, some (.own 0), some (.p (.raw (.ref F))), some (.p (.int n))] := by
     simp only [restOf, List.map_cons, List.map_nil, Option.bind_none, Option.bind_some, St.put, List.getElem?_set_ne (show (3 : Nat) ≠ 2 by decide), List.getElem?_set_ne (show (3 : Nat) ≠ 1 by decide), List.getElem?_set_self (show 3 < σ.vals.length by lia), v1, v2]
     rfl
   rw [hrv] at al
   have K' := kam_clo (n0 := 0) (kam := kam n) (G := G) (hb := s₄.heap) (F := F) (lst := lst) (Wb := W_i2d) (pn := pnI) hG R₄.ok hl0 ⟨_, _, el'⟩ hF₄ hrec₄ CS.C hI (fun s ys h => hT _ _ _ _ _ s ys h) (by rw [← hlow]; exact al) (k0 n) (fun k ps xs xs' h => hk n F lst k ps xs xs' h) K
   exact kam_call (rm := rm) (G' := G.up s₄.heap [lst] ⟨F, K + 0, fun zz => none, true, lst, kam n K⟩) R₄ rfl (Gd.up_at R₄.ok) (fun h' y => Gd.up_down hG R₄.ok (fun a h => by rw [List.mem_singleton.mp h]; exact hl0) y) rfl (show K + 0 ≤ rm from hK) hm.toRm ha own1 K' rs.ps hnl nx nx' hkam fun s₅ R₅ g₅ => ⟨rfl, wpAny_execs_nil (fin s₅ R₅ ((g₁.trans g₄).trans g₅))⟩
noncomputable def wD2 (rm : Nat) (kap : List P → Int → Nat → List P → Option P) (c : St → Option Bool) (fs : St → Option (List V)) : SW := fun σ Po => ∃ ds n r K b, σ.vals[0]? = some (some (.p (.lst ds))) ∧ σ.vals[1]? = some (some (.p (.int n))) ∧ σ.vals.length = 4 ∧ σ.own = [] ∧ noLst r = true ∧ K ≤ rm ∧
 ∀ F, c (σ.put 2 (.p (.raw (.ref F)))) = some b ∧ (if b = true then ∃ ps, fs (σ.put 2 (.p (.raw (.ref F)))) = some (ps.map .p) ∧ kap ds n K ps = some r else r = .int 0) ∧ Po (.ret (.p r)) (σ.put 2 (.p (.raw (.ref F))))
theorem SS_d2i {a e : PySem.Expr} {es : List PySem.Expr} {dp ip kp cpos p rp' : Pos} {kk : Nat} {c : St → Option Bool} {fs : St → Option (List V)} {kap : List P → Int → Nat → List P → Option P} (hmk : markOf cs = some (41, Str.ofString "_digits2int"))
   (n2 : cs.names[2]? = some (xI, .cell)) (CS : CloSc cs ics pnD [none, none, some 0, some 2, some 1]) (hI : ∀ rm, SS rm ics ibody (W_d2i rm)) (hT : TakesI (Str.ofString "_digits2int" ++ Str.ofString ".<locals>." ++ xI) params ibody ics pnD)
   (hkw : params.kwonlyargs = []) (hd : ∀ env, defaultsOf params env = ([], [])) (han : ∀ env, annTrees params none env = []) (hc : CT rm cs a c) (hs : ESs rm cs (e :: es) fs) (he : ∀ env, starEach (e :: es) env = (false, eval e env) :: starEach es env)
   (k0 : ∀ ds n ps, kap ds n 0 ps = none)
   (hk : ∀ ds n F k ps r, kap ds n (k + 1) ps = some r → ps.length = 2 ∧ W_d2i k ⟨ps.map (fun x => some (.p x)) ++ [none, none, some (.p (.lst ds)), some (.p (.raw (.ref F))), some (.p (.int n))], [], ⟨F, k, kap ds n k, false, 0, fun zz zz => none⟩⟩ (Outs r)) :
   SS rm cs [.FunctionDef xI params ibody [] none [] ics none xI dp, .Return (some (.IfExp a (.Call (.Name xI p) (e :: es) [] cpos) (.Constant (.int 0) kk kp) ip)) rp'] (wD2 rm kap c fs) := fun G Γ mu s₀ σ ow s A Po Q hG hΓ hcs hW R hm hQ => by
 refine wg fun P' bk => ?_
 obtain ⟨ds, n, r, K, b, v0, v1, vl, hown, nr, hK, hrest⟩ := hW
 subst hcs
 refine bk ?_
 refine wpAny_execs_cons (def_go (c := 41) (P := 37) (cn := Str.ofString "_digits2int") 2 (by decide) (by decide) hmk (clo_frame CS hΓ rfl R).1 hkw hd han n2 hG hΓ R fun F doc pm cdv ct s₁ R₁ g₁ hF hrec => ?_)
 refine wg fun P' bk => ?_
 obtain ⟨hcb, hif, hPo⟩ := hrest F
 refine bk ?_
 refine wpAny_execs_cons (wpAny_Return_some (wpAny_IfExp ?_))
 refine hc G Γ mu s₀ _ ow s₁ b A _ hG hΓ rfl hcb R₁ hm fun s₂ R₂ o₂ => ?_
 have g₂ : Go Γ ow s₁ ow s₂ := Go.of_old o₂ R₂.ok
 have hlow : ow = [] := by
   have hl : ow.length = 0 := by rw [R.len, hown]; rfl
   exact List.eq_nil_of_length_eq_zero hl
 cases b with
 | false =>
   dsimp only [Bool.false_eq_true, if_false] at hif ⊢
   subst hif
   refine ES_int (rm := rm) G Γ mu s₀ _ ow s₂ _ A _ hG hΓ rfl rfl R₂ hm fun y s₃ vy R₃ o₃ => ?_
   exact hQ (.ret (.p (.int 0))) _ ow s₃ _ hPo R₃ ((g₁.trans g₂).trans (Go.of_old o₃ R₃.ok)) ⟨y, rfl, vy⟩
 | true =>
   simp only [if_true] at hif ⊢
   refine wg fun P' bk => ?_
   obtain ⟨ps, hfs, hkap⟩ := hif
   have hF₂ := g₂.ext F _ (R₁.off_func hF rfl) hF
   obtain ⟨o, fd, ho, hdf⟩ : ∃ o fd, s₂.heap.get? F = some o ∧ o.data = .func fd := ⟨_, _, hF₂, rfl⟩
   refine bk ?_
   with_reducible refine wpAny_Call_NameR ?_
   refine ES_var (rm := rm) 2 n2 (.inr (.inl rfl)) rfl G Γ mu s₀ _ ow s₂ (.p (.raw (.ref F))) A _ hG hΓ rfl ?_ R₂ hm fun fv s₃ vf R₃ o₃ => ?_
   · simp only [cV, St.put, List.getElem?_set_self (show 2 < σ.vals.length by lia)]; rfl
   cases vf
   with_reducible refine callWith_def (o := o) (fd := fd) hdf ?_ (he _)
   refine hs G Γ mu s₀ _ ow s₃ _ A _ _ hG hΓ rfl hfs R₃ hm fun ys s₄ rs R₄ o₄ => ?_
   have g₄ : Go Γ ow s₁ ow s₄ := (g₂.trans (Go.of_old (o₃.trans o₄) R₄.ok))
   have hF₄ := g₄.ext F _ (R₁.off_func hF rfl) hF
   have hrec₄ : s₄.heap.CodeRec cdv (Str.ofString "_digits2int" ++ Str.ofString ".<locals>." ++ xI) := by
     obtain ⟨c', o', vs, t, e1, e2, e3, e4⟩ := hrec
     exact ⟨c', o', vs, t, e1, g₄.ext c' o' (R₁.off_rec e2 e3 e4) e2, e3, e4⟩
   refine ⟨by rw [hF₂] at ho; obtain rfl := sij ho; exact hF₄, ?_⟩
   have al := (clo_frame CS hΓ rfl R₄).2
   have hrv : restOf [none, none, some 0, some 2, some 1] (σ.put 2 (.p (.raw (.ref F)))) = [none, none, some (.p (.lst ds)), some (.p (.raw (.ref F))), some (.p (.int n))] := by
     simp only [restOf, List.map_cons, List.map_nil, Option.bind_none, Option.bind_some, St.put, List.getElem?_set_ne (show (2 : Nat) ≠ 0 by decide), List.getElem?_set_ne (show (2 : Nat) ≠ 1 by decide), List.getElem?_set_self (show 2 < σ.vals.length by lia), v1, v0]
     rfl
   rw [hrv] at al
   have K' := kap_clo (n0 := 0) (kap := kap ds n) (G := G) (hb := s₄.heap) (F := F) (Wb := W_d2i) (pn := pnD) hG R₄.ok hF₄ hrec₄ CS.C hI (fun s ys h => hT _ _ _ _ _ s ys h) (by rw [← hlow]; exact al) (k0 ds n) (fun k ps r h => hk ds n F k ps r h) K
   refine K'.key s₄ A ps ys r _ (Gd.up_at R₄.ok) (hm.toRm.mono (show K + 0 ≤ rm from hK)) (rs.ps.mono (fun b o e zz zz => e) fun zz zz zz zz => trivial) hkap fun y h' tk py o' ok' => ?_
   have ok₅ : G.at h' := Gd.up_down hG R₄.ok (fun a h => by simp at h) ok'
   exact hQ (.ret (.p r)) _ ow _ _ hPo (R₄.step tk o' ok₅) ((g₁.trans g₄).trans (Go.of_old (s' := { s₄ with heap := h', toks := tk }) o' ok₅)) ⟨y, rfl, PV.any nr py⟩
end
noncomputable def W_int2digits (rm : Nat) (kk : Int → Nat → List P → List P → Option (List P)) : SW := (wSeq (wNew 2 (nRep (nLst (cCons (cK (.int 0)) cNil)) (lift2 fdivP (lift2 subP (lift2 addP (lift1 bitsP (cV 0)) (cV 1)) (cK (.int 1))) (cV 1)))) (wI2 rm kk (cTr (cV 0)) (cCons (cV 0) (cCons (cK (.int 0)) (cCons (cApp lenA (cCons (cV 2) cNil)) cNil)))))
theorem d_int2digits {rm : Nat} {kk : Int → Nat → List P → List P → Option (List P)} (k0 : ∀ n ps xs, kk n 0 ps xs = none) (hk : ∀ n F lst k ps xs xs', kk n (k + 1) ps xs = some xs' → ps.length = 3 ∧ noLsts xs' = true ∧ W_i2d k ⟨ps.map (fun x => some (.p x)) ++ [none, none, none, none, some (.own 0), some (.p (.raw (.ref F))), some (.p (.int n))], [xs], ⟨F, k, fun zz => none, true, lst, kk n k⟩⟩ (fun fl σ => Outs .none fl σ ∧ σ.own[0]? = some xs')) : ∃ qual params body cs dV kV, FnRecM 35 34 qual params body cs dV kV ∧ SS rm cs body (W_int2digits rm kk) ∧ TakesPos qual params body cs dV kV [Str.ofString "a", Str.ofString "n"] ∧ Celled cs [Str.ofString "a", Str.ofString "n"] 3 (some (34, qual)) :=
 ⟨_, _, _, _, _, _, ⟨fun w => ⟨_, _, _, _, _, _, _, _, by rfl, by kernel_rfl⟩⟩, (SS_cons (S_new 2 rfl (.inr rfl) (NS_rep (NS_lst (ESs_cons ES_int ESs_nil (fun zz => rfl))) (ES_bin (ES_bin (ES_bin (ES_bits (ES_var 0 rfl (.inl rfl) rfl) (MC_of rfl fun zz => rfl)) (ES_var 1 rfl (.inr (.inl rfl)) rfl) ok_add) ES_int ok_sub) (ES_var 1 rfl (.inr (.inl rfl)) rfl) ok_fdiv)) (fun zz zz => rfl)) (SS_i2d (by kernel_rfl) rfl rfl ⟨⟨rfl, by decide, by decide, rfl, rfl, rfl, by kernel_rfl⟩, by decide⟩ (fun rm => (SS_cons (S_if (CT_cmp (ES_bin (ES_var 1 rfl (.inl rfl) rfl) ES_int ok_add) (ES_var 2 rfl (.inl rfl) rfl) ok_eq rfl) (SS_cons (S_setAt (ES_var 7 rfl (.inr (.inr rfl)) rfl) (ES_var 1 rfl (.inl rfl) rfl) (ES_var 0 rfl (.inl rfl) rfl) (fun zz zz => rfl)) (SS_cons S_retN SS_nil)) SS_nil) (SS_cons (S_set 3 rfl (.inl rfl) (ES_bin (ES_bin (ES_var 1 rfl (.inl rfl) rfl) (ES_var 2 rfl (.inl rfl) rfl) ok_add) ES_int ok_shr) (fun zz zz => rfl)) (SS_cons (S_set 4 rfl (.inl rfl) (ES_bin (ES_bin (ES_var 3 rfl (.inl rfl) rfl) (ES_var 1 rfl (.inl rfl) rfl) ok_sub) (ES_var 9 rfl (.inr (.inr rfl)) rfl) ok_mul) (fun zz zz => rfl)) (SS_cons (S_set 5 rfl (.inl rfl) (ES_bin (ES_var 0 rfl (.inl rfl) rfl) (ES_var 4 rfl (.inl rfl) rfl) ok_shr) (fun zz zz => rfl)) (SS_cons (S_set 6 rfl (.inl rfl) (ES_bin (ES_var 0 rfl (.inl rfl) rfl) (ES_bin (ES_var 5 rfl (.inl rfl) rfl) (ES_var 4 rfl (.inl rfl) rfl) ok_shl) ok_xor) (fun zz zz => rfl)) (SS_cons (S_kam (ES_var 8 rfl (.inr (.inr rfl)) rfl) (ESs_cons (ES_var 6 rfl (.inl rfl) rfl) (ESs_cons (ES_var 1 rfl (.inl rfl) rfl) (ESs_cons (ES_var 3 rfl (.inl rfl) rfl) ESs_nil (fun zz => rfl)) (fun zz => rfl)) (fun zz => rfl)) (fun zz => rfl) (fun zz => rfl)) (SS_cons (S_kam (ES_var 8 rfl (.inr (.inr rfl)) rfl) (ESs_cons (ES_var 5 rfl (.inl rfl) rfl) (ESs_cons (ES_var 3 rfl (.inl rfl) rfl) (ESs_cons (ES_var 2 rfl (.inl rfl) rfl) ESs_nil (fun zz => rfl)) (fun zz => rfl)) (fun zz => rfl)) (fun zz => rfl) (fun zz => rfl)) SS_nil)))))))) (fun zz zz zz zz zz zz ys h => by apply len3 (ys := ys) h; exact fun y0 y1 y2 => BindsTo.of_eq rfl) rfl (fun zz => rfl) (fun zz => rfl) (CT_plain (ES_var 0 rfl (.inl rfl) rfl) (fun zz zz => rfl)) (ESs_cons (ES_var 0 rfl (.inl rfl) rfl) (ESs_cons ES_int (ESs_cons (ES_callB 4 bn_len rfl (ESs_cons (ES_var 2 rfl (.inr (.inl rfl)) rfl) ESs_nil (fun zz => rfl)) ok_len (fun zz => rfl) (fun zz zz => rfl)) ESs_nil (fun zz => rfl)) (fun zz => rfl)) (fun zz => rfl)) (fun zz => rfl) (fun zz => rfl) k0 hk)), (by exact takesK2 fun zz zz zz zz zz zz zz zz zz => BindsTo.of_eq rfl), ⟨rfl, by decide, by decide, by decide, rfl, rfl, rfl, rfl, by kernel_rfl⟩⟩
noncomputable def W_digits2int (rm : Nat) (kk : List P → Int → Nat → List P → Option P) : SW := (wD2 rm kk (cTr (cV 0)) (cCons (cK (.int 0)) (cCons (cApp lenA (cCons (cV 0) cNil)) cNil)))
theorem d_digits2int {rm : Nat} {kk : List P → Int → Nat → List P → Option P} (k0 : ∀ ds n ps, kk ds n 0 ps = none) (hk : ∀ ds n F k ps r, kk ds n (k + 1) ps = some r → ps.length = 2 ∧ W_d2i k ⟨ps.map (fun x => some (.p x)) ++ [none, none, some (.p (.lst ds)), some (.p (.raw (.ref F))), some (.p (.int n))], [], ⟨F, k, kk ds n k, false, 0, fun zz zz => none⟩⟩ (Outs r)) : ∃ qual params body cs dV kV, FnRecM 42 41 qual params body cs dV kV ∧ SS rm cs body (W_digits2int rm kk) ∧ TakesPos qual params body cs dV kV [Str.ofString "digits", Str.ofString "n"] ∧ Celled cs [Str.ofString "digits", Str.ofString "n"] 2 (some (41, qual)) :=
 ⟨_, _, _, _, _, _, ⟨fun w => ⟨_, _, _, _, _, _, _, _, by rfl, by kernel_rfl⟩⟩, (SS_d2i (by kernel_rfl) rfl ⟨⟨rfl, by decide, by decide, rfl, rfl, rfl, by kernel_rfl⟩, by decide⟩ (fun rm => (SS_cons (S_if (CT_cmp (ES_bin (ES_var 0 rfl (.inl rfl) rfl) ES_int ok_add) (ES_var 1 rfl (.inl rfl) rfl) ok_eq rfl) (SS_cons (S_ret (ES_sub (ES_var 4 rfl (.inr (.inr rfl)) rfl) (ES_var 0 rfl (.inl rfl) rfl) (fun zz zz => rfl))) SS_nil) SS_nil) (SS_cons (S_set 2 rfl (.inl rfl) (ES_bin (ES_bin (ES_var 0 rfl (.inl rfl) rfl) (ES_var 1 rfl (.inl rfl) rfl) ok_add) ES_int ok_shr) (fun zz zz => rfl)) (SS_cons (S_set 3 rfl (.inl rfl) (ES_bin (ES_bin (ES_var 2 rfl (.inl rfl) rfl) (ES_var 0 rfl (.inl rfl) rfl) ok_sub) (ES_var 6 rfl (.inr (.inr rfl)) rfl) ok_mul) (fun zz zz => rfl)) (SS_cons (S_ret (ES_bin (ES_bin (ES_key (ES_var 5 rfl (.inr (.inr rfl)) rfl) (ESs_cons (ES_var 2 rfl (.inl rfl) rfl) (ESs_cons (ES_var 1 rfl (.inl rfl) rfl) ESs_nil (fun zz => rfl)) (fun zz => rfl)) (fun zz => rfl)) (ES_var 3 rfl (.inl rfl) rfl) ok_shl) (ES_key (ES_var 5 rfl (.inr (.inr rfl)) rfl) (ESs_cons (ES_var 0 rfl (.inl rfl) rfl) (ESs_cons (ES_var 2 rfl (.inl rfl) rfl) ESs_nil (fun zz => rfl)) (fun zz => rfl)) (fun zz => rfl)) ok_add)) SS_nil))))) (fun zz zz zz zz zz zz ys h => by apply len2 (ys := ys) h; exact fun y0 y1 => BindsTo.of_eq rfl) rfl (fun zz => rfl) (fun zz => rfl) (CT_plain (ES_var 0 rfl (.inr (.inl rfl)) rfl) (fun zz zz => rfl)) (ESs_cons ES_int (ESs_cons (ES_callB 3 bn_len rfl (ESs_cons (ES_var 0 rfl (.inr (.inl rfl)) rfl) ESs_nil (fun zz => rfl)) ok_len (fun zz => rfl) (fun zz zz => rfl)) ESs_nil (fun zz => rfl)) (fun zz => rfl)) (fun zz => rfl) k0 hk), (by exact takesK2 fun zz zz zz zz zz zz zz zz zz => BindsTo.of_eq rfl), ⟨rfl, by decide, by decide, by decide, rfl, rfl, rfl, rfl, by kernel_rfl⟩⟩
theorem bn_ZDE : Bn (Str.ofString "ZeroDivisionError") (.type "ZeroDivisionError") := .of (fun w => by kernel_rfl) (by kernel_rfl) (by kernel_rfl) (by kernel_rfl)
theorem d_zde {rm : Nat} : ∃ qual params body cs dV kV, FnRec 56 qual params body cs dV kV ∧ SX rm cs body (fun σ zz Pe => (cB (lift2 eqP (cV 1) (cK (.int 0)))) σ = some true ∧ Pe .zde) ∧ TakesPos qual params body cs dV kV [Str.ofString "a", Str.ofString "b"] ∧ Plain cs [Str.ofString "a", Str.ofString "b"] 5 :=
 ⟨_, _, _, _, _, _, ⟨fun w => ⟨_, _, _, _, _, _, _, _, _, by rfl, by kernel_rfl⟩⟩, SX_zde 4 (CT_cmp (ES_var 1 rfl (.inl rfl) rfl) ES_int ok_eq rfl) bn_ZDE rfl, (by exact takesK2 fun zz zz zz zz zz zz zz zz zz => BindsTo.of_eq rfl), ⟨rfl, by decide, by decide, rfl, rfl, rfl, rfl, by kernel_rfl⟩⟩
structure NoughtDef (qual : Str) (params : Arguments) (body : List Stmt) (cs : Scope) (dV kV : Value) : Prop where
 B : FnRec 132 qual params body cs dV kV
 T : TakesPos qual params body cs dV kV [Str.ofString "value"]
 C : Plain cs [Str.ofString "value"] 4
 n : cs.names = [(Str.ofString "value", .local), (Str.ofString "error", .local), (Str.ofString "int_divmod", .globalImplicit), (Str.ofString "ZeroDivisionError", .globalImplicit), (Str.ofString "str", .globalImplicit)]
 body : body = [.Try [.Return (some (.Call (.Name (Str.ofString "int_divmod") ⟨139,15,139,25⟩) [.Name (Str.ofString "value") ⟨139,26,139,31⟩, .Constant (.int 0) 0 ⟨139,33,139,34⟩] [] ⟨139,15,139,35⟩)) ⟨139,8,139,35⟩]
   [.ExceptHandler (some (.Name (Str.ofString "ZeroDivisionError") ⟨140,11,140,28⟩)) (some (Str.ofString "error")) [.Return (some (.Call (.Name (Str.ofString "str") ⟨141,15,141,18⟩) [.Name (Str.ofString "error") ⟨141,19,141,24⟩] [] ⟨141,15,141,25⟩)) ⟨141,8,141,25⟩] ⟨140,4,141,25⟩] [] [] ⟨138,4,141,25⟩]
theorem d_nought : ∃ qual params body cs dV kV, NoughtDef qual params body cs dV kV :=
 ⟨_, _, _, _, _, _, ⟨fun w => ⟨_, _, _, _, _, _, _, _, _, by rfl, by kernel_rfl⟩⟩, (by exact takesK1 fun zz zz zz zz zz zz zz zz => BindsTo.of_eq rfl), ⟨rfl, by decide, by decide, rfl, rfl, rfl, rfl, by kernel_rfl⟩, rfl, rfl⟩
theorem ez1 (w : World) : exmOne (KF w) (.type "ZeroDivisionError") (.type "ZeroDivisionError") = some true := by kernel_rfl
theorem nought_call {rm : Nat} {qual : Str} {params : Arguments} {body : List Stmt} {cs : Scope} {dV kV : Value} (D : NoughtDef qual params body cs dV kV)
   {G : Gd} {s : Shared} {x : Int} {t : Tok} {A : Around} {l : List Env} {Q : Value → Shared → Prop} (hG : G.Ok) (ok : G.at s.heap) (hm : Rm (rm + 2) A) (hfr : A.frames = some l) (hFF : FF s.heap l) (h0 : ∀ b o, G.h₀.get? b = some o → b ∉ frs l)
   (hQ : ∀ u h' tk, Turned G s.heap l h' → Q (.str Str.empty u) { s with heap := h', toks := tk }) : wpC (model PG G.w) A (call (.ref 132) [.int x t]) Q NoE s := by
 obtain rfl := D.body
 refine wpC_call (entryC D.B D.T D.C hG ok hm (xs := [.int x]) ⟨_, _, rfl, ⟨t, rfl⟩, rfl⟩ rfl fun h₁ tk cdv hΓ R hst hm' => ?_)
 generalize hL1 : s.heap.objs.size = L1 at hΓ R hm' ⊢
 generalize hΓe : plainFi qual cs L1 132 cdv = Γ at hΓ R hm' ⊢
 have hcs : Γ.cs = cs := by rw [← hΓe]
 have hLΓ : Γ.L = L1 := by rw [← hΓe]
 have hfΓ : Γ.env.frame = some L1 := by rw [← hΓe]
 have nm : ∀ {i : Nat} {y : Str} {k : NameKind}, cs.names[i]? = some (y, k) → Γ.cs.names[i]? = some (y, k) := fun h => by rw [hcs]; exact h
 have n0 : cs.names[0]? = some (Str.ofString "value", .local) := by rw [D.n]; rfl
 have n1 : cs.names[1]? = some (Str.ofString "error", .local) := by rw [D.n]; rfl
 have n2 : cs.names[2]? = some (Str.ofString "int_divmod", .globalImplicit) := by rw [D.n]; rfl
 have n3 : cs.names[3]? = some (Str.ofString "ZeroDivisionError", .globalImplicit) := by rw [D.n]; rfl
 have n4 : cs.names[4]? = some (Str.ofString "str", .globalImplicit) := by rw [D.n]; rfl
 have hls : ∀ L ∈ frs l, L ≠ L1 := fun L hL z => by
   refine wg fun P' bk => ?_
   obtain ⟨o, es, n, e, _⟩ := hFF.mem hL
   have := Heap.lt_size e
   refine bk ?_
   rw [hL1] at this; exact absurd z (Nat.ne_of_lt this)
 refine wpC_execs_cons (wpC_Try ?_)
 refine wpC_execs_cons (wpC_Return_some (wpC_Call_Name (wpC_of (name_G (G := G.off) 2 fk_int_divmod.n hG.off hΓ (nm n2) R.ok ?_))))
 refine wg fun P' bk => ?_
 obtain ⟨of, fd, hof, hdf⟩ := fk_int_divmod.o G.w
 have hs : ESs (rm + 1) cs [.Name (Str.ofString "value") ⟨139,26,139,31⟩, .Constant (.int 0) 0 ⟨139,33,139,34⟩] (cCons (cV 0) (cCons (cK (.int 0)) cNil)) :=
   ESs_cons (ES_var 0 n0 (.inl rfl) rfl) (ESs_cons ES_int ESs_nil (fun zz => rfl)) (fun zz => rfl)
 refine bk ?_
 refine wpC_callWith_def (o := of) (fd := fd) rfl (Nat.le_of_ble_eq_true rfl) hdf (Calls.evalArgs_plain (wpAny_mono (E := NoE) (hs G.off Γ [] s _ [] _ [.p (.int x), .p (.int 0)] _ ⟨139,15,139,35⟩ _ hG.off hΓ hcs rfl R hm' fun ys s₂ rs R₂ o₂ => ?_) (fun zz zz h => h) fun zz zz h => h.elim))
 refine ⟨R₂.ok.stay _ _ (hG.X _ _ hof), ?_⟩
 have pv := toPs_view R₂ rs (show toPs _ _ = some [.int x, .int 0] from rfl)
 refine wg fun P' bk => ?_
 obtain ⟨qual', params', body', cs', dV', kV', B', S', T', C'⟩ := d_zde (rm := rm)
 have old : Old tb s.heap s₂.heap := R₂.old
 have hfr' := Around.frames_deeper (env := Γ.env) hfr
 obtain ⟨m, hns, hmv⟩ := R₂.m
 obtain ⟨oL, esL, epL, eL, hdL, _⟩ := id hns
 rw [hLΓ] at hns eL
 have ntb : ∀ L ∈ frs l, L ∉ tb := fun L hL q => by
   obtain ⟨o, es, n, e, d⟩ := hFF.mem hL
   obtain ⟨vs, z⟩ := tab_data ok.tabs q e
   rw [d] at z; cases z
 have FF₂ : FF s₂.heap (Γ.env :: l) := by
   refine ⟨fun env he => ?_, fun env he => ?_⟩
   · rcases List.mem_cons.mp he with rfl | he
     · show Γ.cs.kind ≠ .module; rw [hcs, D.C.k]; decide
     · exact hFF.fun_ env he
   · rcases List.mem_cons.mp he with rfl | he
     · exact ⟨L1, oL, esL, epL, hfΓ, eL, hdL⟩
     · obtain ⟨L, o, es, n, h1, h2, h3⟩ := hFF.fr env he
       exact ⟨L, o, es, n, h1, old L o (ntb L (List.mem_filterMap.mpr ⟨env, he, h1⟩)) h2, h3⟩
 have hmem : ∀ {b}, b ∈ frs (Γ.env :: l) → b = L1 ∨ b ∈ frs l := fun {b} hb => by
   obtain ⟨e', he', hf'⟩ := List.mem_filterMap.mp hb
   rcases List.mem_cons.mp he' with rfl | he'
   · rw [hfΓ] at hf'; exact .inl (sij hf').symm
   · exact .inr (List.mem_filterMap.mpr ⟨e', he', hf'⟩)
 have memL : L1 ∈ frs (Γ.env :: l) := List.mem_filterMap.mpr ⟨Γ.env, .head _, hfΓ⟩
 have meml : ∀ {L}, L ∈ frs l → L ∈ frs (Γ.env :: l) := fun {L} hL => by
   obtain ⟨e', he', hf'⟩ := List.mem_filterMap.mp hL
   exact List.mem_filterMap.mpr ⟨e', .tail _ he', hf'⟩
 obtain ⟨h₂, tk₂, rfl⟩ := R₂.sh
 have hz : s.heap.objs.size ≤ h₂.objs.size := by rw [hL1]; exact Nat.le_of_lt (Heap.lt_size eL)
 refine bk ?_
 refine fnx_call (G := G.off) (rm := rm) (Pr := fun zz => False) (Pe := fun ex => ex = .zde) B' S' T' C' hG.off R₂.ok hm'.toRm hfr' FF₂ (fun b o e q => ?_) pv rfl ⟨?_, rfl⟩ ?_ ?_
 · rcases hmem q with z | z
   · have := Heap.lt_size (ok.stay b o e); rw [hL1] at this; exact absurd z (Nat.ne_of_lt this)
   · exact h0 b o e z
 · rfl
 · rintro r' y h' tk' hr; exact hr.elim
 · intro ex e h' tk' B hPe fl
   subst hPe
   have hBL : B.get? L1 = none := fl.off L1 memL
   have atB : G.at B := fl.at_.off
   have M0 : ∀ st : B.StaysIn h', Mid B s.heap l L1 h' := fun st => ⟨st, fun L hL o e => fl.up L (meml hL) o (old L o (ntb L hL) e), by
     refine wg fun P' bk => ?_
     obtain ⟨sl, e1⟩ := fl.up L1 memL oL eL
     refine bk ?_
     exact Heap.lt_size e1⟩
   have ns' : h'.Ns L1 m := by
     obtain ⟨o, es, ep, ho, hd, rr⟩ := hns
     obtain ⟨sl, e1⟩ := fl.up L1 memL o ho
     exact ⟨_, es, ep, e1, hd, rr⟩
   have hpc : (Γ.env.scope.kind == .class || (Γ.env.scope.kind == .module && Γ.env.locals != Γ.env.globals)) = false := by
     show (Γ.cs.kind == .class || (Γ.cs.kind == .module && _)) = false; rw [hcs, D.C.k]; rfl
   refine wg fun P' bk => ?_
   obtain ⟨t0, flw, htup, hnt⟩ := fl.fl
   have stB : B.StaysIn h' := flw.1
   refine bk ?_
   refine caught (G := G) hfr' hfΓ flw fun h5 fl5 up5 => ?_
   have inAt : ∀ {hh : Heap}, B.StaysIn hh → (KF G.w).In hh ∧ G.off.at hh := fun st => ⟨fun p o q => (at_stays atB st).stay p o (hG.X p o q), Gd.at.of (at_stays atB st)⟩
   refine wg fun P' bk => ?_
   obtain ⟨X5, at5⟩ := inAt fl5.1
   refine bk ?_
   refine h_hit_as (G := G) (L := L1) (s := { s with heap := h5, toks := tk' }) X5 fl5 (ez1 _) (fun A' Q' E' q => name_B (G := G.off) 3 bn_ZDE hG.off hΓ (nm n3) at5 q) fun h6 fl6 up6' => ?_
   have up6 : h'.UpToSlots h6 := up5.trans up6'
   have tup6 := (htup.of_slots up5).of_slots up6'
   have ns6 : h6.Ns Γ.L m := by rw [hLΓ]; exact up6.ns ns'
   have M6 : Mid B s.heap l L1 h6 := (M0 stB).slots hFF fl6.1 up6 (by obtain ⟨o, es, ep, ho, _⟩ := (hLΓ ▸ ns6 : h6.Ns L1 m); exact ⟨o, ho⟩)
   refine wpAny_storeName_local (hΓ.kind (nm n1)) ns6 (fun h7 hn7 hs7 => ?_) hpc
   rw [show Γ.env.locals = L1 from hLΓ] at hs7
   have M7 := M6.same hBL hls hs7
   refine wg fun P' bk => ?_
   obtain ⟨oe, vs, e1, e2, e3, e4⟩ := fl6.first
   obtain ⟨oL6, esL6, epL6, eL6, hdL6, _⟩ := id (hLΓ ▸ ns6 : h6.Ns L1 m)
   have ne : e ≠ L1 := fun zz => by subst zz; rw [e1] at eL6; cases eL6; rw [e3] at hdL6; cases hdL6
   have nt : t0 ≠ L1 := fun zz => by
     obtain ⟨ot, n, ho, hc, hd⟩ := tup6
     subst zz; rw [ho] at eL6; cases eL6; rw [hd] at hdL6; cases hdL6
   have at7 : G.off.at h7 := Gd.at.of (at_stays atB M7.st)
   refine bk ?_
   refine wpAny_execs_cons (wpAny_Return_some ?_)
   refine wpAny_Call_NameR (name_B (G := G.off) 4 bn_str hG.off hΓ (nm n4) at7 ?_)
   refine PyProof.Rows.callWith_type1 ?_ rfl rfl
   refine spliced_more ?_ rfl
   refine wpAny_Name (wpAny_loadName_local hΓ.fn (hΓ.kind (nm n1)) hn7 (if_pos rfl) ?_) rfl
   refine spliced_none ?_
   refine P.str_of_exc_none PySem.F.excStr_ZeroDivisionError (by have := hm'.un; show (A.deeper Γ.env).units + 2 < cLine; lia) (t0 := t0) (e := e) ⟨oe, vs, (hs7.2 e ne).trans e1, e2, e3, e4⟩ (let ⟨ot, n, ho, r⟩ := tup6; ⟨ot, n, (hs7.2 t0 nt).trans ho, r⟩) ?_
   refine wpAny_nameGoes_keeps (hΓ.kind (nm n1)) (hn7.keeps fun b o q => q) hpc fun h9 v hn9 hs9 => ?_
   rw [show Γ.env.locals = L1 from hLΓ] at hs9
   have M9 := M7.same hBL hls hs9
   refine hQ _ h9 _ ⟨fun b o h1 h2 h3 => ?_, at_stays atB M9.st, M9.up⟩
   refine M9.st b o (fl.keep b o (old b o h3 h1) (fun q => ?_) h3)
   rcases hmem q with z | z
   · have := Heap.lt_size h1; rw [hL1] at this; exact absurd z (Nat.ne_of_lt this)
   · exact h2 z
section
variable {prog : Program} {w : World} {A : Around} {E : Value → Shared → Prop} {s : Shared} {env : Env}
theorem wpC_Compare1 {l r : PySem.Expr} {op : CmpOp} {pos : Pos} {Q : Value → Shared → Prop} (h : wpC (model prog w) A (eval l env) (fun a s₁ => wpC (model prog w) A (eval r env) (fun b s₂ => wpC (model prog w) A (compareOp op a b) Q E s₂) E s₁) E s)
   (hm : behindInMarks op r = false) : wpC (model prog w) A (eval (.Compare l [op] [r] pos) env) Q E s := fun Γ p hΓ z => by
 simp only [eval_Compare1, markedBehindIn_of_false hm, Sem.wp_bind', Sem.wp_holding, Sem.wp_cmd_standAt, Sem.wp_operate]
 exact Sem.wp_mono (model prog w) Γ _ (fun a p₁ s₁ h₁ => Sem.wp_mono (model prog w) Γ _ (fun b zz s₂ h₂ => h₂ Γ _ hΓ z) (fun zz zz zz h' => h') _ _ (h₁ Γ p₁ hΓ z))
   (fun zz zz zz h' => h') _ _ (h Γ p hΓ z)
theorem wpC_And2 {x y : PySem.Expr} {pos : Pos} {Q : Value → Shared → Prop} (h : wpC (model prog w) A (eval x env) (fun v s₁ => wpC (model prog w) A (truthy v) (fun t s₂ => if t then wpC (model prog w) A (eval y env) Q E s₂ else Q v s₂) E s₁) E s) :
   wpC (model prog w) A (eval (.BoolOp .And [x, y] pos) env) Q E s := by
 show wpC (model prog w) A (do
   let v ← eval x env
   standAt pos
   let t ← holding [v] (truthy v)
   match BoolOp.And, t with
   | .And, false | .Or, true => pure v
   | _, _ => boolOp pos .And [eval y env]) Q E s
 refine wpC_bind (wpC_mono h (fun v s₁ h₁ => wpC_bind (wpC_standAt (wpC_bind (wpC_holding (wpC_mono h₁ (fun t s₂ h₂ => ?_) fun zz zz x => x))))) fun zz zz x => x)
 cases t with
 | false => exact wpC_pure h₂
 | true => exact h₂
end
noncomputable def wFin (f g : St → Option V) : SW := fun σ Po => ∃ b i, f σ = some (.p (.bool b)) ∧ g σ = some (.p (.int i)) ∧ Po (.ret (.p (.bool b))) σ
theorem S1C_fin {rm : Nat} {cs : Scope} (j : Nat) {x e : PySem.Expr} {p np cpos pos bp rp : Pos} {kk : Nat} {f g : St → Option V} (hmk : markOf cs = some (148, Str.ofString "law")) (hj : cs.names[j]? = some (Str.ofString "_law_nought", .globalImplicit)) (hx : ES (rm + 2) cs x f) (he : ES (rm + 2) cs e g)
   (hn : ∀ env, starEach [e] env = [(false, eval e env)]) (hb : behindInMarks .Eq (.Constant (.str (Str.ofString "")) kk p) = false) :
   S1C (rm + 2) cs (.Return (some (.BoolOp .And [x, .Compare (.Call (.Name (Str.ofString "_law_nought") np) [e] [] cpos) [.Eq] [.Constant (.str (Str.ofString "")) kk p] pos] bp)) rp) (wFin f g) := fun G Γ mu s₀ σ ow s A Po Q hG hΓ hc hW R hm hQ => by
 refine wg fun P' bk => ?_
 obtain ⟨b, i, hf, hg, hPo⟩ := hW
 obtain ⟨hfr, hfL⟩ := hm.fr (hc ▸ hmk)
 refine bk ?_
 refine wpC_Return_some (wpC_And2 (wpC_of (hx G Γ mu s₀ σ ow s _ A _ hG hΓ hc hf R hm fun y s₁ vy R₁ o₁ => ?_)))
 cases vy
 have g₁ : Go Γ ow s ow s₁ := Go.of_old o₁ R₁.ok
 refine wpC_of (wpAny_truthy_bool ?_)
 cases b with
 | false =>
   simp only [Bool.false_eq_true, if_false]
   exact hQ (.ret (.p (.bool false))) σ ow s₁ _ hPo R₁ g₁ ⟨_, rfl, rfl⟩
 | true =>
   simp only [if_true]
   refine wpC_Compare1 ?_ hb
   refine wpC_Call_Name (wpC_of (name_G j fk_law_nought.n hG hΓ (hc ▸ hj) R₁.ok ?_))
   refine wg fun P' bk => ?_
   obtain ⟨of, fd, hof, hdf⟩ := fk_law_nought.o G.w
   refine bk ?_
   rw [hn]
   refine wpC_callWith_def (o := of) (fd := fd) rfl (Nat.le_of_ble_eq_true rfl) hdf (Calls.evalArgs_plain (wpAny_mono (E := NoE) (Calls.spliced_cons (he G Γ mu s₀ σ ow s₁ _ A _ hG hΓ hc hg R₁ hm fun y s₂ vy R₂ o₂ => ?_)) (fun zz zz h => h) fun zz zz h => h.elim))
   refine wg fun P' bk => ?_
   obtain ⟨u, rfl⟩ := vy
   refine bk ?_
   refine Calls.spliced_nil ⟨R₂.ok.stay _ _ (hG.X _ _ hof), ?_⟩
   refine wg fun P' bk => ?_
   obtain ⟨qual, params, body, cs', dV, kV, D⟩ := d_nought
   obtain ⟨m, hns, _⟩ := R₂.m
   obtain ⟨oL, es, ep, eL, hd, _⟩ := id hns
   have FF₁ : FF s₂.heap [Γ.env] := by
     refine ⟨fun env h => ?_, fun env h => ?_⟩
     · rw [List.mem_singleton.mp h]; show Γ.cs.kind ≠ .module; rw [hΓ.fn]; decide
     · rw [List.mem_singleton.mp h]; exact ⟨Γ.L, oL, es, ep, congrArg some hfL, eL, hd⟩
   refine bk ?_
   refine nought_call (t := u) D hG R₂.ok hm.toRm hfr FF₁ (fun b o e q => ?_) fun u' h' tk T => ?_
   · have : b = Γ.L := by
       have : b ∈ [Γ.fr] := q
       rw [List.mem_singleton.mp this, hfL]
     have h1 := (hΓ.g0 b o e).1
     rw [this] at h1
     exact absurd hΓ.L (Nat.not_le.mpr h1)
   · refine wg fun P' bk => ?_
     obtain ⟨R₃, g₃⟩ := R₂.turned hΓ hfL tk T
     have g₂ : Go Γ ow s₁ ow s₂ := Go.of_old o₂ R₂.ok
     refine bk ?_
     refine wpC_of (ES_str (rm := rm + 2) G Γ mu s₀ σ ow _ (.p (.str (Str.ofString ""))) A _ hG hΓ hc rfl R₃ hm fun y s₄ vy R₄ o₄ => ?_)
     have g₄ : Go Γ ow _ ow s₄ := Go.of_old o₄ R₄.ok
     refine wpC_of (ok_eq (rm := rm + 2) G (· ∉ ow) s₄ (.str Str.empty) (.str (Str.ofString "")) (.bool true) (.str Str.empty u') y A _ hG R₄.ok hm.toRm (fun c hc hm => absurd (R₄.ow_lt c hm) (Nat.not_lt.mpr hc)) ⟨_, rfl⟩ vy (by kernel_rfl) fun w h' tk vw o₅ ok₅ => ?_)
     exact hQ (.ret (.p (.bool true))) σ ow _ _ hPo (R₄.step tk o₅ ok₅) ((((g₁.trans g₂).trans g₃).trans g₄).trans (Go.of_old (s' := { s₄ with heap := h', toks := tk }) o₅ ok₅)) ⟨_, rfl, vw⟩
noncomputable def cKwN (op : Ky → List P → Option P) (fk : St → Option V) (fs : St → Option (List V)) : St → Option V := fun σ => match (fs σ).bind (toPs σ), fk σ with
 | some ps, some (.p (.raw (.ref F))) => if F = σ.ky.a ∧ σ.ky.on = false then (op σ.ky ps).map .p else none
 | _, _ => none
section
variable {rm : Nat} {cs : Scope}
noncomputable def cKwD (op : Ky → List P → Option P) (σ : St) (a : Option (List P)) (b : Option V) : Option V := match a, b with
 | some ps, some (.p (.raw (.ref F))) => if F = σ.ky.a ∧ σ.ky.on = false then (op σ.ky ps).map .p else none
 | _, _ => none
theorem cKwN_inv {op : Ky → List P → Option P} {fk : St → Option V} {fs : St → Option (List V)} {σ : St} {v : V} (h : cKwN op fk fs σ = some v) : ∃ ps F, (fs σ).bind (toPs σ) = some ps ∧ fk σ = some (.p (.raw (.ref F))) ∧ (if F = σ.ky.a ∧ σ.ky.on = false then (op σ.ky ps).map V.p else none) = some v :=
 eO (F := fun o => cKwD op σ (o) (fk σ)) (o := (fs σ).bind (toPs σ)) h zr fun ps e1 h => eO (F := fun o => cKwD op σ ((some ps)) (o)) (o := fk σ) h zr fun x2 e3 h => eV (F := fun o => cKwD op σ ((some ps)) ((some o))) (o := x2) h zn fun x4 e5 h => eR (F := fun o => cKwD op σ ((some ps)) ((some (V.p o)))) (o := x4) h zr zn zn zn zn zn fun x6 e7 h => eF (F := fun o => cKwD op σ ((some ps)) ((some (V.p (P.raw o))))) (o := x6) h zr zr zr zn zm zm zm zm zn zn fun F e8 h => ⟨ps, F, e1, e3.trans (congrArg some (e5.trans (congrArg V.p (e7.trans (congrArg P.raw (e8)))))), h⟩
theorem ES_kwN (i : Nat) {x kx : Str} {f : Addr} {p pos kp kpos : Pos} {e : PySem.Expr} {es : List PySem.Expr} {fs : St → Option (List V)} {fk : St → Option V} {op : Ky → List P → Option P} (B : FnK x f) (hx : cs.names[i]? = some (x, .globalImplicit)) (hs : ESs rm cs (e :: es) fs) (hf : FnKw rm f op) (hk : ES rm cs (.Name kx kp) fk)
   (he : ∀ env, starEach (e :: es) env = (false, eval e env) :: starEach es env) : ES rm cs (.Call (.Name x p) (e :: es) [⟨some (Str.ofString "key"), .Name kx kp, kpos⟩] pos) (cKwN op fk fs) := fun G Γ mu s₀ σ ow s v A Q hG hΓ hc hv R hm' hQ => by
 obtain ⟨ps, F, h1, h2, hv'⟩ := cKwN_inv hv
 obtain ⟨hF, hv⟩ := ifS hv'
 clear hv'
 ·
   ·
     rw [R.ky] at hF hv
     refine wg fun P' bk => ?_
     obtain ⟨rfl, hon⟩ := hF
     obtain ⟨r, hr, rfl⟩ := Option.map_eq_some_iff.mp hv
     obtain ⟨vs, h0, h1⟩ := Option.bind_eq_some_iff.mp h1
     refine bk ?_
     with_reducible refine PySem.wpAny_Call_Name_kw ?_
     refine name_G i B.n hG hΓ (hc ▸ hx) R.ok ?_
     refine wg fun P' bk => ?_
     obtain ⟨o, fd, ho', hdf⟩ := B.o G.w
     refine bk ?_
     refine PySem.callWith_function_kw (o := o) (fd := fd) ?_
     have hargs : backTo pos (starEach (e :: es) Γ.env) = (false, eval e Γ.env) :: backTo pos (starEach es Γ.env) := by rw [he]; rfl
     rw [hargs]
     refine PySem.evalArgs_kw rfl ?_
     rw [← hargs]
     refine hs G Γ mu s₀ σ ow s vs A pos _ hG hΓ hc h0 R hm' fun xs s₁ rs R₁ o₁ => ?_
     show wpAny (model PG G.w) A (evalAll [do let v ← eval (.Name kx kp) Γ.env; standAt pos; pure v]) _ NoE s₁
     refine PySem.wpAny_evalAll_cons (wpAny_bind ?_)
     refine hk G Γ mu s₀ σ ow s₁ _ A _ hG hΓ hc h2 R₁ hm' fun fv s₂ vf R₂ o₂ => ?_
     cases vf
     refine wpAny_bind (wpAny_standAt (wpAny_pure ?_))
     refine PySem.wpAny_evalAll_nil ⟨⟨R₂.ok.stay _ _ (hG.X _ _ ho'), hdf⟩, ?_⟩
     show wpAny (model PG G.w) A (call (.ref f) ([] ++ xs) [(Str.ofString "key", .ref G.ky.a)]) Q NoE s₂
     rw [List.nil_append]
     refine hf G s₂ ps xs r A Q hG hon R₂.ok hm'.toRm (PVs.old o₂ R₁.ok.tabs (toPs_view R₁ rs h1)) hr fun y h' tk py o₃ ok₃ => ?_
     exact hQ y _ (py.mono (fun b o e zz zz => e) fun b ob e k z => absurd (R₂.ow_lt b z) (Nat.not_lt.mpr k)) (R₂.step tk o₃ ok₃) ((o₁.trans o₂).trans o₃)
end
theorem VRs.len {h : Heap} {ow : List Addr} : ∀ {vs : List V} {ys : List Value}, VRs h ow vs ys → ys.length = vs.length
 | [], _, e => by rw [show _ = _ from e]; rfl
 | _ :: _, _, ⟨y, r, e, a, b⟩ => by rw [e]; exact congrArg (· + 1) (VRs.len b)
theorem VRs.get {h : Heap} {ow : List Addr} : ∀ {vs : List V} {ys : List Value} {i : Nat} {v : V}, VRs h ow vs ys → vs[i]? = some v → ∃ y, ys[i]? = some y ∧ VR h ow v y
 | _ :: _, _, 0, _, ⟨y, r, e, a, b⟩, h => by obtain rfl := sij h; exact ⟨y, by rw [e]; rfl, a⟩
 | _ :: _, _, i + 1, _, ⟨y, r, e, a, b⟩, h => by
   rw [e]
   obtain ⟨z, q, w⟩ := VRs.get b (i := i) (by simpa using h)
   exact ⟨z, by simpa using q, w⟩
theorem startV {G : Gd} {s : Shared} {cs : Scope} {pn : List Str} {m : Nat} {ow : List Addr} {own : List (List P)} {vs : List V} {ys : List Value} {h₁ : Heap} {f : Addr} {cdv : Value} {qual : Str} {tk : Nat}
   (hon : G.ky.on = false) (ok : G.at s.heap) (C : NoCell cs pn) (hv : VRs s.heap ow vs ys) (hvl : vs.length = pn.length) (hOwn : OwnAt s.heap ow own) (hlen : ow.length = own.length) (hnd : ow.Nodup) (hg0 : ∀ b o, G.h₀.get? b = some o → b ∉ ow)
   (hns : h₁.Ns s.heap.objs.size (fun x => (pn.zip ys).reverse.lookup x)) (hst : ∀ (b : Addr) (o : Obj), s.heap.get? b = some o → h₁.get? b = some o) :
   Fi.Ok G ⟨qual, cs, s.heap.objs.size, s.heap.objs.size, some f, cdv, []⟩ ow s.heap ∧ Rp G ⟨qual, cs, s.heap.objs.size, s.heap.objs.size, some f, cdv, []⟩ ow s ⟨vs.map some ++ List.replicate m none, own, G.ky⟩ ow { s with heap := h₁, toks := tk } := by
 have hyl : ys.length = pn.length := hv.len.trans hvl
 have hlt : ∀ a ∈ ow, a < s.heap.objs.size := fun a ha => by
   obtain ⟨i, hi, e⟩ := List.getElem_of_mem ha
   obtain ⟨us, n, q, _⟩ := hOwn i a (own[i]'(hlen ▸ hi)) (by rw [← e]; simp [hi]) (by simp)
   exact Heap.lt_size q
 have vr : ∀ {v y}, VR s.heap ow v y → VR h₁ ow v y := fun {v y} q => by
   cases v with
   | p x => exact PV.mono (fun b o e zz zz => hst b o e) (fun zz zz zz k => k) q
   | own i => exact q
 refine ⟨⟨C.k, C.nd, Nat.le_refl _, fun x c e => absurd e C.lk, fun x e => absurd e C.lk, fun x y c e => by simp at e, fun b o e => ⟨Heap.lt_size (ok.stay b o e), hg0 b o e⟩, hlt, fun c q e => by rw [show markOf cs = none from C.mark] at e; cases e⟩, ⟨⟨_, _, rfl⟩, ⟨fun b o e => hst b o (ok.stay b o e), fun q hq => let ⟨ps, e, t, c⟩ := ok.tabs q hq; ⟨ps, hst _ _ e, t, fun pos cv hc => (c pos cv hc).keeps hst⟩⟩, .of hst, ⟨_, hns, fun i x v e1 e2 => ?_⟩, fun i x k v e1 e2 e3 => ?_, fun x c e => by simp at e, fun i a zs e1 e2 => ?_, hlen, hnd, fun a ha => .inr ha, rfl, fun h => by rw [hon] at h; cases h⟩⟩
 · by_cases hi : i < vs.length
   · rw [List.getElem?_append_left (by simpa using hi)] at e2
     simp only [List.getElem?_map, Option.map_eq_some_iff] at e2
     obtain ⟨p, hp, e2⟩ := e2
     obtain rfl := sij e2
     obtain ⟨y, hy, py⟩ := hv.get hp
     have hpi : pn[i]? = some x := by
       have h2 : (cs.names.take pn.length)[i]? = some (x, .local) := by
         rw [List.getElem?_take, if_pos (by exact m9 ‹_› ‹_›)]; exact e1
       rw [C.n] at h2
       simp only [List.getElem?_map, Option.map_eq_some_iff, Prod.mk.injEq] at h2
       obtain ⟨z, h3, h4, _⟩ := h2
       rw [h3, h4]
     exact ⟨y, (zip_lookup C.nodup hpi hyl).trans hy, vr py⟩
   · rw [List.getElem?_append_right (by simpa using hi)] at e2
     simp [List.getElem?_replicate] at e2
 · by_cases hi : i < vs.length
   · have h2 : (cs.names.take pn.length)[i]? = some (x, k) := by
       rw [List.getElem?_take, if_pos (by exact m9 ‹_› ‹_›)]; exact e1
     rw [C.n] at h2
     simp only [List.getElem?_map, Option.map_eq_some_iff, Prod.mk.injEq] at h2
     obtain ⟨z, h3, h4, h5⟩ := h2
     subst h5
     rcases e2 with h | h <;> cases h
   · rw [List.getElem?_append_right (by simpa using hi)] at e3
     simp [List.getElem?_replicate] at e3
 · obtain ⟨us, n, q, p⟩ := hOwn i a zs e1 e2
   exact ⟨us, n, hst _ _ q, p.mono (fun b o e zz zz => hst b o e) fun zz zz zz k => k⟩
noncomputable def W_insort (rm : Nat) (opB : Ky → List P → Option P) : SW := (wSeq (wIf (cB (lift2 isP (cV 4) (cK .none))) wAny (wSeq (wSet 2 (cKwN opB (cV 4) (cCons (cV 0) (cCons (cKey rm (cV 4) (cCons (cV 1) cNil)) (cCons (cV 2) (cCons (cV 3) cNil)))))) wNil)) (wSeq (wIns (cV 0) (cCons (cV 2) (cCons (cV 1) cNil))) wNil))
theorem d_insort {rm : Nat} {opB : Ky → List P → Option P} (hB : FnKw rm 74 opB) : ∃ qual params body cs dV kV, FnRec 65 qual params body cs dV kV ∧ SS rm cs body (W_insort rm opB) ∧ NoCell cs [Str.ofString "a", Str.ofString "x", Str.ofString "lo", Str.ofString "hi", Str.ofString "key"] ∧ TakesKey qual params body cs dV kV [Str.ofString "a", Str.ofString "x", Str.ofString "lo", Str.ofString "hi", Str.ofString "key"] 57 271 ∧ cs.names.length = 6 :=
 ⟨_, _, _, _, _, _, ⟨fun w => ⟨_, _, _, _, _, _, _, _, _, by rfl, by kernel_rfl⟩⟩, (SS_cons (S_if (CT_cmp (ES_var 4 rfl (.inl rfl) rfl) ES_none ok_is rfl) SS_any (SS_cons (S_set 2 rfl (.inl rfl) (ES_kwN 5 fk_bisect_right rfl (ESs_cons (ES_var 0 rfl (.inl rfl) rfl) (ESs_cons (ES_key (ES_var 4 rfl (.inl rfl) rfl) (ESs_cons (ES_var 1 rfl (.inl rfl) rfl) ESs_nil (fun zz => rfl)) (fun zz => rfl)) (ESs_cons (ES_var 2 rfl (.inl rfl) rfl) (ESs_cons (ES_var 3 rfl (.inl rfl) rfl) ESs_nil (fun zz => rfl)) (fun zz => rfl)) (fun zz => rfl)) (fun zz => rfl)) hB (ES_var 4 rfl (.inl rfl) rfl) (fun zz => rfl)) (fun zz zz => rfl)) SS_nil)) (SS_cons (S_ins (ES_var 0 rfl (.inl rfl) rfl) (ESs_cons (ES_var 2 rfl (.inl rfl) rfl) (ESs_cons (ES_var 1 rfl (.inl rfl) rfl) ESs_nil (fun zz => rfl)) (fun zz => rfl)) (fun zz => rfl) (fun zz zz => rfl) (MC_of rfl fun zz => rfl) PySem.F.type_list_insert (fun zz => rfl)) SS_nil)), ⟨rfl, by decide, by decide, rfl, rfl, rfl, by kernel_rfl⟩, ⟨fun zz zz zz zz zz zz zz zz zz zz h => BindsTo.of_defaults rfl h rfl rfl rfl, fun zz zz zz zz zz zz zz zz zz zz zz zz h => BindsTo.of_defaults rfl h rfl rfl rfl⟩, rfl⟩
theorem insort_call {rm : Nat} {opB : Ky → List P → Option P} (hB : FnKw rm 74 opB) {G : Gd} {s : Shared} {ow : List Addr} {own own' : List (List P)} {v1 v2 : V} {y1 y2 : Value} {A : Around} {Q : Value → Shared → Prop} (hG : G.Ok) (hon : G.ky.on = false) (ok : G.at s.heap) (hm : Rm (rm + 1) A) (hg0 : ∀ b o, G.h₀.get? b = some o → b ∉ ow)
   (hOwn : OwnAt s.heap ow own) (hlen : ow.length = own.length) (hnd : ow.Nodup) (hv : VRs s.heap ow [v1, v2] [y1, y2]) (hlen' : own'.length = own.length) (hW : W_insort rm opB ⟨[some v1, some v2, some (.p (.int 0)), some (.p .none), some (.p (.raw (.ref G.ky.a))), none], own, G.ky⟩ (fun fl σ => fl = .next ∧ σ.own = own'))
   (hQ : ∀ h' tk, OwnAt h' ow own' → Old (ow ++ tb) s.heap h' → G.at h' → Q .none { s with heap := h', toks := tk }) : wpAny (model PG G.w) A (call (.ref 65) [y1, y2] [(Str.ofString "key", .ref G.ky.a)]) Q NoE s := by
 refine wg fun P' bk => ?_
 obtain ⟨qual, params, body, cs, dV, kV, B, S, C, TK, hnl⟩ := d_insort (rm := rm) hB
 obtain ⟨oc, od, osl, name, doc, pm, an, cdv, ct, hf, hcd⟩ := B.o G.w
 have K : (KF G.w).In s.heap := fun p o e => ok.stay p o (hG.X p o e)
 have h57 : s.heap.get? 57 = some { cls := .type "tuple", data := .seq #[.int 0 271, .none] } := K _ _ (by rfl)
 have hlim : s.heap.NoLimit := let ⟨mc, n, q⟩ := hG.nolimit; ⟨mc, n.keeps ok.stay, q⟩
 have hB := TK.1 name doc pm an cdv ct s y1 y2 (.ref G.ky.a) h57
 refine bk ?_
 refine wpAny_call (codeAny_call_def (fd := fnX name qual params body cs [] dV kV doc pm an cdv ct) (body := body) (by have := hm.dp; exact m4 ‹_›) (K _ _ hf) rfl hlim (codeRec_of K hcd) rfl hB (fun x hx => C.cell x hx) C.loc ?_ C.co C.gen C.k)
 intro h₀ hns hst
 refine wg fun P' bk => ?_
 obtain ⟨y1', _, e1, a1, y2', _, e2, a2, e3⟩ := hv
 refine bk ?_
 cases e1; cases e2; cases e3
 refine wg fun P' bk => ?_
 obtain ⟨hΓ, R⟩ := startV (m := 1) (tk := s.toks + ([Str.ofString "a", Str.ofString "x", Str.ofString "lo", Str.ofString "hi", Str.ofString "key"].zip [y1, y2, .int 0 271, .none, .ref G.ky.a]).length) (f := 65) (cdv := cdv) (qual := qual) (vs := [v1, v2, .p (.int 0), .p .none, .p (.raw (.ref G.ky.a))]) (ys := [y1, y2, .int 0 271, .none, .ref G.ky.a]) hon ok C ⟨_, _, rfl, a1, _, _, rfl, a2, _, _, rfl, ⟨_, rfl⟩, _, _, rfl, rfl, _, _, rfl, rfl, rfl⟩ rfl hOwn hlen hnd hg0 hns hst
 have hm' : RmG rm ⟨qual, cs, s.heap.objs.size, s.heap.objs.size, some 65, cdv, []⟩ (A.deeper (Fi.env ⟨qual, cs, s.heap.objs.size, s.heap.objs.size, some 65, cdv, []⟩)) := .of ⟨hm.hd, by have := hm.dp; show A.depth + 1 + rm < _; exact m5 ‹_›, by have := hm.un; show A.units + 3 + 10 * rm < _; lia⟩ (by rw [show markOf cs = none from C.mark]; nofun)
 refine bk ?_
 refine wpAny_mono (S G _ ow s _ ow _ (A.deeper (Fi.env ⟨qual, cs, s.heap.objs.size, s.heap.objs.size, some 65, cdv, []⟩)) _ (fun fl s' => Q (retOf fl) s') hG hΓ rfl hW R hm' fun fl σ' ow' s' fw hPo R' g hf => ?_) (fun fl zz h => by cases fl <;> exact h) fun zz zz h => h.elim
 refine wg fun P' bk => ?_
 obtain ⟨rfl, hown⟩ := hPo
 refine bk ?_
 cases hf
 have how : ow' = ow := by
   refine wg fun P' bk => ?_
   obtain ⟨t, ht⟩ := g.pre
   have : ow'.length = ow.length := by rw [R'.len, hown, hlen', hlen]
   have h1 := congrArg List.length ht
   rw [List.length_append] at h1
   have : t = [] := List.eq_nil_of_length_eq_zero (by lia)
   refine bk ?_
   rw [← ht, this, List.append_nil]
 subst how
 have hO := R'.own
 have o' := R'.old
 rw [hown] at hO
 refine wg fun P' bk => ?_
 obtain ⟨h', tk, rfl⟩ := R'.sh
 refine bk ?_
 exact hQ h' tk hO (fun b o hn e => o' b o (fun z => hn (by
   rcases List.mem_append.mp z with z | z
   · exact List.mem_append_right _ z
   · exact List.mem_append_left _ z)) e) R'.ok
section
variable {G : Gd} {Γ : Fi} {mu : List Addr} {s₀ s : Shared} {σ : St} {ow : List Addr}
theorem Rp.ow_free (R : Rp G Γ mu s₀ σ ow s) (hΓ : Γ.Ok G mu s₀.heap) : ∀ a ∈ ow, G.h₀.get? a = none := fun a ha => by
 cases q : G.h₀.get? a with
 | none => rfl
 | some ob =>
   obtain ⟨q1, q2⟩ := hΓ.g0 _ _ q
   rcases R.owf a ha with h | h
   · exact absurd q1 (Nat.not_lt.mpr h)
   · exact absurd h q2
theorem lam_in_handX {A : Around} {Q : Value → Shared → Prop} {cs : Scope} {rl : Nat} {c P' : Addr} {cn x₀ : Str} {params : Arguments} {lb : PySem.Expr} {cs' : Scope} {g : St → Option V} {lpos : Pos}
   (hP : (c, P') ∈ tbs) (hq : (P', cn ++ Str.ofString ".<locals>." ++ Str.ofString "<lambda>") ∈ tq) (hm : markOf cs = some (c, cn)) (hd : ∀ env, defaultsOf params env = ([], [])) (hE : ES rl cs' lb g) (C : NoCell cs' [x₀]) (hcl : ∀ env, closureFor cs' env = pure [])
   (hb : ∀ name qual cl pm cdv ct y, bindArgs (kla_fn name qual params lb cs' cl pm cdv ct) ⟨[y], []⟩ = pure [(x₀, y)])
   (hG : G.Ok) (hΓ : Γ.Ok G mu s₀.heap) (hc : Γ.cs = cs) (R : Rp G Γ mu s₀ σ ow s)
   (hQ : ∀ F s', Rp G Γ mu s₀ σ ow s' → Old tb s.heap s'.heap → (G.up s'.heap ow ⟨F, rl + 1, lamK g [], false, 0, fun zz zz => none⟩).Ok → (G.up s'.heap ow ⟨F, rl + 1, lamK g [], false, 0, fun zz zz => none⟩).at s'.heap → (∀ h', (G.up s'.heap ow ⟨F, rl + 1, lamK g [], false, 0, fun zz zz => none⟩).at h' → G.at h') → Q (.ref F) s') :
   wpAny (model PG G.w) A (eval (.Lambda params lb cs' lpos) Γ.env) Q NoE s := by
 obtain ⟨hcd, hcn⟩ := hΓ.mark c cn (hc ▸ hm)
 refine kla_eval (hd _) ?_
 have hqq : Γ.env.qual ++ ("<lambda>" : Str) = cn ++ Str.ofString ".<locals>." ++ Str.ofString "<lambda>" := by rw [← hcn]
 rw [hqq]
 refine mk_lam (cn := cn) hP hq hcd (hcl _) hG R.ok fun F pm cdv ct h' tk o ok hF hrec hsz => ?_
 have T := ok.tabs
 have hx : ∀ a ∈ ow, G.h₀.get? a = none := R.ow_free hΓ
 have R' := R.step tk o ok
 have hex : ∀ a ∈ ow, ∃ ys n, h'.get? a = some (PySem.W.listOf ys n) := fun a ha => let ⟨ys, n, e⟩ := R'.own_obj ha; ⟨_, n, e⟩
 have ok0 : (G.up h' ow Ky.no).Ok := Gd.up_ok hG ok hx (by intro s A ps ys r Q _ _ _ h; cases h) (by intro s A ps ys xs us n xs' Q h; cases h) (by rintro (⟨ps, r, h⟩ | h) <;> cases h)
 have hF' : (hideAll h' (ow ++ tb)).get? F = some { cls := .type "function", data := .func (kla_fn "<lambda>" (cn ++ Str.ofString ".<locals>." ++ Str.ofString "<lambda>") params lb cs' [] pm cdv ct) } := hide_get T hex hF nofun (fun ys n z => by have := congrArg Obj.data z; cases this)
 have hrec' : (hideAll h' (ow ++ tb)).CodeRec cdv (cn ++ Str.ofString ".<locals>." ++ Str.ofString "<lambda>") := by
   obtain ⟨c, o, vs, t, e1, e2, e3, e4⟩ := hide_rec T hrec
   refine ⟨c, o, vs, t, e1, ?_, e3, e4⟩
   have e2' : h'.get? c = some o := of_hideAll _ e2
   refine hideAll_get _ e2' fun z => ?_
   rcases List.mem_append.mp z with z | z
   · obtain ⟨ys, n, q⟩ := hex c z
     rw [e2'] at q; cases q; cases e3
   · have := hideAll_none (h := h') ([] ++ tb) (b := c) z
     rw [this] at e2; cases e2
 have call := lam_call (rm := rl) (G := G.up h' ow Ky.no) (h₀ := hideAll h' (ow ++ tb)) (x₀ := x₀) (f := g) (rest := []) ok0 hE C hF' hrec' (Base.none (m := 0) rfl) (fun y => hb _ _ _ _ _ _ y)
 refine hQ F _ R' o (Gd.up_ok hG ok hx ?_ (by intro s A ps ys xs us n xs' Q h; cases h) fun zz => ⟨_, _, hF', rfl⟩) (Gd.up_at ok) fun h'' y => Gd.up_down hG ok hx y
 intro s A ps ys r Q at' hm' hv hk hQ'
 exact call s A ps ys r Q at'.stay ⟨at'.stay, at'.tabs⟩ hm' hv hk fun y h'' tk' py o' ok' => hQ' y h'' tk' py o' ⟨ok'.stay, ok'.tabs⟩
end
noncomputable def wInsort (rm rl : Nat) (opB : Ky → List P → Option P) (g : St → Option V) (fs : St → Option (List V)) : SW := fun σ Po => ∃ v1 v2 own', fs σ = some [v1, v2] ∧ own'.length = σ.own.length ∧ Po .next { σ with own := own' } ∧
 ∀ F, W_insort rm opB ⟨[some v1, some v2, some (.p (.int 0)), some (.p .none), some (.p (.raw (.ref F))), none], σ.own, ⟨F, rl + 1, lamK g [], false, 0, fun zz zz => none⟩⟩ (fun fl σ' => fl = .next ∧ σ'.own = own')
theorem S_insort {rm : Nat} {cs : Scope} (i : Nat) {p cpos pos lpos kpos : Pos} {e1 e2 : PySem.Expr} {fs : St → Option (List V)} {opB : Ky → List P → Option P} {rl : Nat} {c P' : Addr} {cn x₀ : Str} {params : Arguments} {lb : PySem.Expr} {cs' : Scope} {g : St → Option V} (hB : FnKw rm 74 opB)
   (hx : cs.names[i]? = some (Str.ofString "insort_right", .globalImplicit)) (hs : ESs (rm + 1) cs [e1, e2] fs) (he : ∀ env, starEach [e1, e2] env = (false, eval e1 env) :: starEach [e2] env)
   (hP : (c, P') ∈ tbs) (hq : (P', cn ++ Str.ofString ".<locals>." ++ Str.ofString "<lambda>") ∈ tq) (hmk : markOf cs = some (c, cn)) (hd : ∀ env, defaultsOf params env = ([], [])) (hE : ES rl cs' lb g) (C : NoCell cs' [x₀]) (hcl : ∀ env, closureFor cs' env = pure [])
   (hb : ∀ name qual cl pm cdv ct y, bindArgs (kla_fn name qual params lb cs' cl pm cdv ct) ⟨[y], []⟩ = pure [(x₀, y)])
   (hsw : ∀ env : Env, swapsWith (.Call (.Name (Str.ofString "insort_right") p) [e1, e2] [⟨some (Str.ofString "key"), .Lambda params lb cs' lpos, kpos⟩] cpos) none pos.line env = pure false) :
   S1 (rm + 1) cs (.Expr (.Call (.Name (Str.ofString "insort_right") p) [e1, e2] [⟨some (Str.ofString "key"), .Lambda params lb cs' lpos, kpos⟩] cpos) pos) (wInsort rm rl opB g fs) := fun G Γ mu s₀ σ ow s A Po Q hG hΓ hc hW R hm hQ => by
 refine wg fun P' bk => ?_
 obtain ⟨v1, v2, own', hfs, hlen', hPo, hins⟩ := hW
 refine bk ?_
 refine wpAny_exprNone ?_ (inter hΓ) (hsw _)
 with_reducible refine PySem.wpAny_Call_Name_kw ?_
 refine name_G i fk_insort_right.n hG hΓ (hc ▸ hx) R.ok ?_
 refine wg fun P' bk => ?_
 obtain ⟨o, fd, ho', hdf⟩ := fk_insort_right.o G.w
 refine bk ?_
 refine PySem.callWith_function_kw (o := o) (fd := fd) ?_
 have hargs : backTo cpos (starEach [e1, e2] Γ.env) = (false, eval e1 Γ.env) :: backTo cpos (starEach [e2] Γ.env) := by rw [he]; rfl
 rw [hargs]
 refine PySem.evalArgs_kw rfl ?_
 rw [← hargs]
 refine hs G Γ mu s₀ σ ow s _ A cpos _ hG hΓ hc hfs R hm fun xs s₁ rs R₁ o₁ => ?_
 show wpAny (model PG G.w) A (evalAll [do let v ← eval (.Lambda params lb cs' lpos) Γ.env; standAt cpos; pure v]) _ NoE s₁
 refine PySem.wpAny_evalAll_cons (wpAny_bind ?_)
 refine lam_in_handX (R := R₁) hP hq hmk hd hE C hcl hb hG hΓ hc fun F s₂ R₂ o₂ ok' at' back => ?_
 refine wpAny_bind (wpAny_standAt (wpAny_pure ?_))
 refine PySem.wpAny_evalAll_nil ⟨⟨R₂.ok.stay _ _ (hG.X _ _ ho'), hdf⟩, ?_⟩
 show wpAny (model PG G.w) A (call (.ref 65) ([] ++ xs) [(Str.ofString "key", .ref F)]) _ NoE s₂
 rw [List.nil_append]
 have rs₂ : VRs s₂.heap ow [v1, v2] xs := VRs.old o₂ R₁.ok.tabs rs
 refine wg fun P' bk => ?_
 obtain ⟨y1, _, rfl, a1, y2, _, rfl, a2, rfl⟩ := rs₂
 refine bk ?_
 refine insort_call (G := G.up s₂.heap ow ⟨F, rl + 1, lamK g [], false, 0, fun zz zz => none⟩) hB ok' rfl at' hm.toRm (fun b ob e z => ?_) R₂.own R₂.len R₂.nd ⟨y1, _, rfl, a1, y2, _, rfl, a2, rfl⟩ hlen' (hins F) fun h' tk hO o₃ ok₃ => ⟨rfl, ?_⟩
 · have : (G.up s₂.heap ow ⟨F, rl + 1, lamK g [], false, 0, fun zz zz => none⟩).h₀.get? b = none := hideAll_none _ (List.mem_append_left _ z)
   rw [this] at e; cases e
 · refine wg fun P' bk => ?_
   obtain ⟨R₃, g₃⟩ := R₂.lent tk (own' := own') o₃ (back _ ok₃) hlen' hO
   refine bk ?_
   exact hQ .next _ ow _ _ hPo R₃ ((Go.of_old (o₁.trans o₂) R₂.ok).trans g₃) rfl
end Mine
end
section
open PySem PySem.W PySem.Calls PyProof.Rows
namespace Mine
set_option maxHeartbeats 1000000
structure Jn (G : Gd) (h₀ h : Heap) : Prop where
 old : Old tb h₀ h
 at_ : G.at h
 gnd : G.at h₀
section
variable {G : Gd} {h₀ h h' : Heap} {b : Addr}
theorem Jn.push (J : Jn G h₀ h) (o : Obj) : Jn G h₀ (h.push o) := ⟨J.old.trans (.push _), ⟨fun b o e => Heap.get?_push_of_some _ (J.at_.stay b o e), fun q hq => let ⟨ps, e, t, c⟩ := J.at_.tabs q hq; ⟨ps, Heap.get?_push_of_some _ e, t, fun pos cv hc => (c pos cv hc).push _⟩⟩, J.gnd⟩
theorem Jn.same (J : Jn G h₀ h) (hs : Heap.SameBut b h h') (hb : h₀.get? b = none) {ob : Obj} {vs : Array Value} {n : Nat} (ho : h.get? b = some ob) (hd : ob.data = .seq vs n) : Jn G h₀ h' := by
 refine ⟨fun c x hn e => (hs.2 c fun z => by rw [z, hb] at e; cases e).trans (J.old c x hn e), ⟨fun c o e => ?_, fun q hq => ?_⟩, J.gnd⟩
 · exact (hs.2 c fun z => by have := J.gnd.stay c o e; rw [z, hb] at this; cases this).trans (J.at_.stay c o e)
 · obtain ⟨ps, e, t, cc⟩ := J.at_.tabs q hq
   refine ⟨ps, (hs.2 _ fun z => ?_).trans e, t, fun pos cv hc => ?_⟩
   · rw [z, ho] at e; cases e; cases hd
   · obtain ⟨c₁, o, vs', tt, f1, f2, f3, f4⟩ := cc pos cv hc
     exact ⟨c₁, o, vs', tt, f1, (hs.2 _ fun z => by rw [z, ho] at f2; cases f2; rw [hd] at f3; cases f3).trans f2, f3, f4⟩
theorem Jn.go (J : Jn G h₀ h) (o : Old tb h h') (ok : G.at h') : Jn G h₀ h' := ⟨J.old.trans o, ok, J.gnd⟩
end
noncomputable def KeyOk (G : Gd) (A : Around) (s : Shared) (vs : List Value) (kz : List Int) : Prop :=
 ∀ (i : Nat) (v : Value) (k : Int), vs[i]? = some v → kz[i]? = some k → ∀ (h : Heap) (tk : Nat), Jn G s.heap h → wpAny (model PG G.w) A (call (.ref G.ky.a) [v]) (fun y s' => ∃ h' tk' t', s' = { s with heap := h', toks := tk' } ∧ y = .int k t' ∧ Old tb h h' ∧ G.at h') (fun zz zz => False) { s with heap := h, toks := tk }
section
variable {G : Gd} {A : Around} {E : Value → Shared → Prop} {s s₁ : Shared} {a kS : Addr} {vs : List Value} {kz : List Int} {keys : Array Value} {e e1 : Nat} {P : PySem.Fin → Shared → Prop}
theorem srt_tail {st : SortSt} {h : Heap} {tk : Nat} (J : Jn G s.heap h) (nk : h.get? kS = some (seqObj "list" keys e)) (na : h.get? a = some (seqObj "list" #[] e1)) (hka : kS ≠ a) (fk : s.heap.get? kS = none) (fa : s.heap.get? a = none)
   (hk : IntsAre keys.toList kz) (hlen : kz.length = vs.length) (h64 : vs.length < 64) (hp : (arrOf st).Perm (keys.zip vs.toArray)) (hs : SortedTo (arrOf st) (arrOf st).size) (hfl : failedOf st = none)
   (hP : ∀ h' tk out c, Jn G s.heap h' → h'.get? a = some (seqObj "list" out c) → KskOut false kz vs out.toList → P (.done (.ret .none)) { s with heap := h', toks := tk }) :
   wpAny (model PG G.w) A (ksk_tail a false e1 (.ref kS) st) P E { s with heap := h, toks := tk } := by
 have hsz : keys.size = vs.length := by
   have h1 := hk.length
   rw [Array.length_toList] at h1
   lia
 have hsz2 : (arrOf st).size = vs.length := by rw [hp.size_eq, Array.size_zip, hsz, List.size_toArray, Nat.min_self]
 have hout : ((arrOf st).map (·.2)).size = vs.length := by rw [Array.size_map]; exact hsz2
 have s1 := Heap.SameBut.update h kS (Obj.mapSeq fun zz => (#[] : Array Value))
 have na1 : (h.update kS (Obj.mapSeq fun zz => (#[] : Array Value))).get? a = some (seqObj "list" #[] e1) := (s1.2 a hka.symm).trans na
 have s2 := Heap.SameBut.update (h.update kS (Obj.mapSeq fun zz => (#[] : Array Value))) a (Obj.mapSeq fun zz => (arrOf st).map (·.2))
 have J1 := J.same s1 fk nk rfl
 have J2 := J1.same s2 fa na1 rfl
 unfold ksk_tail
 refine wpAny_bind (listUpdate_at (s := { s with heap := h, toks := tk }) nk rfl ?_ (by rw [hsz, sizeLine_eq]; exact m3 ‹_› (by decide)) (Nat.zero_le _))
 refine wpAny_bind (wpAny_letGo ?_)
 refine wpAny_bind (seqEpoch_at na1 rfl ?_)
 refine wpAny_bind (listUpdate_at na1 rfl ?_ (Nat.zero_le _) (Nat.le_trans (Nat.le_of_eq hout) (by rw [sizeLine_eq]; exact m3 ‹_› (by decide))))
 rw [hfl]
 simp only [bne_self_eq_false, Bool.false_eq_true, if_false]
 exact wpAny_pure (hP _ _ _ _ J2 (get?_update_seq na1 fun zz => (arrOf st).map (·.2)) (ksk_out (b := false) hk hp hs))
theorem srt_end {h : Heap} {tk : Nat} (J : Jn G s.heap h) (nk : h.get? kS = some (seqObj "list" keys e)) (na : h.get? a = some (seqObj "list" #[] e1)) (hka : kS ≠ a) (fk : s.heap.get? kS = none) (fa : s.heap.get? a = none)
   (hk : IntsAre keys.toList kz) (hlen : kz.length = vs.length) (h64 : vs.length < 64)
   (hP : ∀ h' tk out c, Jn G s.heap h' → h'.get? a = some (seqObj "list" out c) → KskOut false kz vs out.toList → P (.done (.ret .none)) { s with heap := h', toks := tk }) :
   wpAny (model PG G.w) A (ksk_end a false vs.toArray e1 (.ref kS) keys) P E { s with heap := h, toks := tk } := by
 have hsz : keys.size = vs.length := by
   have h1 := hk.length
   rw [Array.length_toList] at h1
   lia
 have hzs : (keys.zip vs.toArray).size = vs.length := by rw [Array.size_zip, hsz, List.size_toArray, Nat.min_self]
 unfold ksk_end
 dsimp only [Bool.false_eq_true, if_false]
 by_cases h2 : vs.toArray.size < 2
 · rw [if_pos h2, if_pos h2]
   refine wpAny_bind (wpAny_pure ?_)
   rw [StateT.run_pure]
   refine wpAny_bind (wpAny_pure ?_)
   refine srt_tail (s := s) (st := SortSt.mk' general' (keys.zip vs.toArray) #[] 7 none) J nk na hka fk fa hk hlen h64 (Array.Perm.refl _) ?_ rfl hP
   intro i j hij hj
   have hj2 : j < (keys.zip vs.toArray).size := hj
   rw [hzs] at hj2
   rw [List.size_toArray] at h2
   have : i = j := by lia
   subst this
   exact Int.le_refl _
 · rw [if_neg h2, if_neg h2]
   rw [List.size_toArray] at h2
   rw [ksk_kind hk (by rw [hsz]; exact p2 ‹_›)]
   refine wpAny_bind (wpAny_pure ?_)
   refine wpAny_bind (wpAny_mono (wpS_sortRuns (a₀ := keys.zip vs.toArray) (st := SortSt.mk' oneType' (keys.zip vs.toArray) #[] 7 none)
     (Q := fun zz st' => (arrOf st').Perm (keys.zip vs.toArray) ∧ failedOf st' = none ∧ SortedTo (arrOf st') (keys.zip vs.toArray).size)
     (ksk_intKeys hk) ⟨Array.Perm.refl _, rfl, rfl, rfl⟩ (by rw [hzs]; exact p2 ‹_›) (by rw [hzs]; exact h64) fun st' a1 a2 a3 => ⟨a1, a2, a3⟩) ?_ fun zz zz e => e)
   rintro ⟨⟨⟩, st'⟩ s' ⟨rfl, hp, hf, hs⟩
   exact srt_tail (s := s) J nk na hka fk fa hk hlen h64 hp (by rw [hp.size_eq]; exact hs) hf hP
theorem srt_rest {h : Heap} {tk : Nat} (J : Jn G s.heap h) (nk : h.get? kS = some (seqObj "list" #[] 0)) (na : h.get? a = some (seqObj "list" #[] e1)) (hka : kS ≠ a) (fk : s.heap.get? kS = none) (fa : s.heap.get? a = none)
   (hlen : kz.length = vs.length) (h64 : vs.length < 64) (turn : KeyOk G A s vs kz)
   (hP : ∀ h' tk out c, Jn G s.heap h' → h'.get? a = some (seqObj "list" out c) → KskOut false kz vs out.toList → P (.done (.ret .none)) { s with heap := h', toks := tk }) :
   wpAny (model PG G.w) A (ksk_rest a (.ref G.ky.a) false vs.toArray e1 (.ref kS)) P E { s with heap := h, toks := tk } := by
 unfold ksk_rest
 refine wpAny_bind (wpAny_rule ?_)
 rw [List.forIn_toArray]
 refine wpAny_bind (ksk_fold (fun i s' => ∃ h' tk kA e, s' = { s with heap := h', toks := tk } ∧ Jn G s.heap h' ∧ h'.get? kS = some (seqObj "list" kA e) ∧ h'.get? a = some (seqObj "list" #[] e1) ∧ IntsAre kA.toList (kz.take i)) vs 0 _
   ⟨h, tk, #[], 0, rfl, J, nk, na, by simpa using IntsAre.nil⟩ ?step ?done)
 case step =>
   rintro j x s' hx ⟨h', tk, kA, e, rfl, J', nk', na', hk⟩
   simp only [Nat.zero_add] at hk ⊢
   have hj : j < vs.length := (List.getElem?_eq_some_iff.mp hx).1
   obtain ⟨k, hkj⟩ : ∃ k, kz[j]? = some k := ⟨_, List.getElem?_eq_getElem (by lia)⟩
   have hz : kA.size ≤ vs.length := by
     have h1 := hk.length
     rw [Array.length_toList, List.length_take] at h1
     lia
   refine wpAny_bind (wpAny_attempt (wpAny_mono (turn j x k hx hkj h' tk J') (fun v s'' he => ?_) fun zz zz hF => hF.elim))
   obtain ⟨g, tk2, t2, rfl, rfl, o2, ok2⟩ := he
   have J2 := J'.go o2 ok2
   have nk2 := o2.cls J'.at_.tabs nk' nofun
   have na2 := o2.cls J'.at_.tabs na' nofun
   have s1 := Heap.SameBut.update g kS (Obj.mapSeq (·.push (.int k t2)))
   have ek : kz.take (j + 1) = kz.take j ++ [k] := by rw [List.take_add_one, hkj]; simp
   have ea : (kA.push (Value.int k t2)).toList = kA.toList ++ [Value.int k t2] := by simp
   refine wpAny_bind (listUpdate_at (s := { s with heap := g, toks := tk2 }) nk2 rfl ?_ (by rw [sizeLine_eq]; lia) (Nat.le_trans (Nat.le_of_eq (Array.size_push ..)) (by rw [sizeLine_eq]; lia)))
   exact wpAny_pure ⟨rfl, _, _, kA.push (.int k t2), _, rfl, J2.same s1 fk nk2 rfl, get?_update_seq nk2 (·.push (.int k t2)), (s1.2 a hka.symm).trans na2, by rw [ea, ek]; exact ksk_snoc hk⟩
 case done =>
   rintro s' ⟨h', tk, kA, e, rfl, J', nk', na', hk⟩
   have hk' : IntsAre kA.toList kz := by
     have e3 : kz.take (0 + vs.length) = kz := List.take_of_length_le (by lia)
     rw [e3] at hk
     exact hk
   refine wpAny_bind (listItems_at (s := { s with heap := h', toks := tk }) nk' rfl ?_)
   exact srt_end (s := s) J' nk' na' hka fk fa hk' hlen h64 hP
theorem srt_sort {h : Heap} {tk : Nat} {n : Nat} (J : Jn G s.heap h) (ho : h.get? a = some (seqObj "list" vs.toArray n)) (fa : s.heap.get? a = none) (hle : s.heap.objs.size ≤ h.objs.size) (hlen : kz.length = vs.length) (h64 : vs.length < 64) (turn : KeyOk G A s vs kz)
   (hP : ∀ h' tk out c, Jn G s.heap h' → h'.get? a = some (seqObj "list" out c) → KskOut false kz vs out.toList → P (.done (.ret .none)) { s with heap := h', toks := tk }) :
   wpAny (model PG G.w) A (ksk_tree a (.ref G.ky.a) false) P E { s with heap := h, toks := tk } := by
 have ha : a < h.objs.size := Heap.lt_size ho
 have s1 := Heap.SameBut.update h a (Obj.mapSeq fun zz => (#[] : Array Value))
 obtain ⟨e1, ho1⟩ : ∃ e1, (h.update a (Obj.mapSeq fun zz => (#[] : Array Value))).get? a = some (seqObj "list" #[] e1) := ⟨_, get?_update_seq ho fun zz => #[]⟩
 have J1 := J.same s1 fa ho rfl
 have hkS : ((h.update a (Obj.mapSeq fun zz => (#[] : Array Value))).push (seqObj "tuple" vs.toArray 0)).objs.size = h.objs.size + 1 := by rw [size_push', Heap.size_update]
 unfold ksk_tree
 refine wpAny_bind (listItems_at (s := { s with heap := h, toks := tk }) ho rfl ?_)
 refine wpAny_bind (listUpdate_at (s := { s with heap := h, toks := tk }) ho rfl ?_ (by rw [List.size_toArray, sizeLine_eq]; exact m3 ‹_› (by decide)) (Nat.zero_le _))
 refine wpAny_bind (seqEpoch_at ho1 rfl ?_)
 refine wpAny_bind (wpAny_newTuple ?_ (by show vs.length ≤ _; rw [sizeLine_eq]; exact m3 ‹_› (by decide)))
 refine wpAny_bind (wpAny_newList ?_ (Nat.zero_le _))
 refine wpAny_holding ?_
 refine srt_rest (s := s) (kS := ((h.update a (Obj.mapSeq fun zz => (#[] : Array Value))).push (seqObj "tuple" vs.toArray 0)).objs.size) ((J1.push _).push _) (Heap.get?_push_size _ rfl) (Heap.get?_push_of_some _ (Heap.get?_push_of_some _ ho1)) (by rw [hkS]; exact Nat.ne_of_gt (Nat.lt_succ_of_lt ha)) (Heap.get?_none_of_le (by rw [hkS]; exact m6 ‹_›)) fa hlen h64 turn hP
end
theorem sorted_raw {G : Gd} {A : Around} {E : Value → Shared → Prop} {s : Shared} {l : Addr} {vs : List Value} {kz : List Int} {Q : Value → Shared → Prop} (ok : G.at s.heap) (hl : s.heap.IsList l vs.toArray) (hlen : kz.length = vs.length) (h64 : vs.length < 64) (turn : KeyOk G A.in1.in1 s vs kz)
   (hQ : ∀ D h' tk out c, Jn G s.heap h' → s.heap.objs.size ≤ D → h'.get? D = some (seqObj "list" out c) → KskOut false kz vs out.toList → Q (.ref D) { s with heap := h', toks := tk }) :
   wpAny (model PG G.w) A (call (.builtin "sorted") [.ref l] [(Str.ofString "key", .ref G.ky.a)]) Q E s := by
 refine call_function_entry_kw kind_sorted plain_sorted entry_sorted (ksk_s1 _ _) ?_
 dsimp only [Builtin.«sorted»]
 refine wpAny_bind (m := checkCount "sorted" 1 1 _) (wpAny_pure ?_)
 refine wpAny_bind (collect_list hl ?_ (by rw [sizeLine_eq]; lia))
 refine wpAny_bind (wpAny_newList ?_ (by rw [sizeLine_eq]; lia))
 have hsz : ((s.heap.push (seqObj "list" #[] 0)).update s.heap.objs.size (Obj.mapSeq (· ++ vs.toArray))).objs.size = s.heap.objs.size + 1 := by
   rw [Heap.size_update, size_push']
 have J0 : Jn G s.heap s.heap := ⟨.refl, ok, ok⟩
 have J1 := J0.push (seqObj "list" #[] 0)
 have n1 : (s.heap.push (seqObj "list" #[] 0)).get? s.heap.objs.size = some (seqObj "list" #[] 0) := Heap.get?_push_size _ rfl
 have J2 := (J1.same (Heap.SameBut.update (s.heap.push (seqObj "list" #[] 0)) s.heap.objs.size (Obj.mapSeq (· ++ vs.toArray))) (get_size _) n1 rfl).push (seqObj "list" vs.toArray 0)
 have hoL : (((s.heap.push (seqObj "list" #[] 0)).update s.heap.objs.size (Obj.mapSeq (· ++ vs.toArray))).push (seqObj "list" vs.toArray 0)).get? (s.heap.objs.size + 1) = some (seqObj "list" vs.toArray 0) := by
   rw [← hsz]; exact Heap.get?_push_size _ rfl
 show wpAny _ _ _ _ _ { s with heap := ((s.heap.push (seqObj "list" #[] 0)).update s.heap.objs.size (Obj.mapSeq (· ++ vs.toArray))).push (seqObj "list" vs.toArray 0) }
 rw [hsz]
 refine wpAny_bind (wpAny_holding (wpAny_call_entry_kw slot_list_sort ⟨_, hoL, rfl⟩ entry_list_sort ?body (ksk_l1 _ _)))
 case body =>
   show wpAny (model PG G.w) A.in1.in1 (Builtin.«list.sort» ⟨[.ref (s.heap.objs.size + 1)], [(Str.ofString "key", .ref G.ky.a)]⟩) _ _ _
   rw [ksk_t1]
   refine srt_sort (s := s) (tk := s.toks) J2 hoL (Heap.get?_none_of_le (Nat.le_succ _)) (by rw [size_push', hsz]; lia) hlen h64 turn fun h' tk out c J' n' k' => ⟨_, rfl, ?_⟩
   exact wpAny_pure ⟨_, rfl, hQ _ h' tk out c J' (Nat.le_succ _) n' k'⟩
end Mine
end
section
open PySem PySem.W PySem.Calls PyProof.Rows
namespace Mine
noncomputable def sortP (kz : List Int) (xs : List P) : List P := ((kz.zip xs).mergeSort (fun p q => decide (p.1 ≤ q.1))).map (·.2)
theorem zip_inj {α : Type} : ∀ {kz : List Int} {l : List α} {k : Int} {a b : α}, kz.Nodup → (k, a) ∈ kz.zip l → (k, b) ∈ kz.zip l → a = b
 | [], _, _, _, _, _, h, _ => by simp at h
 | _ :: _, [], _, _, _, _, h, _ => by simp at h
 | x :: kz, y :: l, k, a, b, nd, h1, h2 => by
   simp only [List.zip_cons_cons, List.mem_cons, Prod.mk.injEq] at h1 h2
   obtain ⟨n1, n2⟩ := List.nodup_cons.mp nd
   rcases h1 with ⟨rfl, rfl⟩ | h1 <;> rcases h2 with ⟨e, rfl⟩ | h2
   · rfl
   · exact absurd (List.of_mem_zip h2).1 n1
   · exact absurd (e ▸ (List.of_mem_zip h1).1) n1
   · exact zip_inj n2 h1 h2
theorem sort_uniq {α : Type} {kz : List Int} {l : List α} {p q : List (Int × α)} (nd : kz.Nodup) (hp : p.Perm (kz.zip l)) (hq : q.Perm (kz.zip l)) (sp : p.Pairwise fun a b => a.1 ≤ b.1) (sq : q.Pairwise fun a b => a.1 ≤ b.1) : p = q :=
 List.Perm.eq_of_pairwise (le := fun a b : Int × α => a.1 ≤ b.1) (fun a b ha hb h1 h2 => by
   have e : a.1 = b.1 := Int.le_antisymm h1 h2
   have ha' := hp.mem_iff.mp ha
   have hb' := hq.mem_iff.mp hb
   obtain ⟨k, x⟩ := a
   obtain ⟨k', y⟩ := b
   simp only at e
   subst e
   rw [zip_inj nd ha' hb']) sp sq (hp.trans hq.symm)
theorem PVs.pairs {ok : Addr → Prop} {h : Heap} : ∀ {L : List (P × Value)}, (∀ p ∈ L, PV ok h p.1 p.2) → PVs ok h (L.map (·.1)) (L.map (·.2))
 | [], _ => rfl
 | p :: L, q => ⟨p.2, _, rfl, q p (.head _), PVs.pairs fun r hr => q r (.tail _ hr)⟩
theorem PVs.zip {ok : Addr → Prop} {h : Heap} : ∀ {xs : List P} {ys : List Value}, PVs ok h xs ys → ∀ p ∈ xs.zip ys, PV ok h p.1 p.2
 | [], _, _, p, hp => by simp at hp
 | x :: xs, _, ⟨y, r, e, a, b⟩, p, hp => by
   subst e
   simp only [List.zip_cons_cons, List.mem_cons] at hp
   rcases hp with rfl | hp
   · exact a
   · exact PVs.zip b p hp
theorem ms_sorted {α : Type} (l : List (Int × α)) : (l.mergeSort fun p q => decide (p.1 ≤ q.1)).Pairwise fun a b => a.1 ≤ b.1 :=
 (List.pairwise_mergeSort (le := fun p q : Int × α => decide (p.1 ≤ q.1)) (fun a b c h1 h2 => by simp only [decide_eq_true_eq] at *; exact q4 ‹_› ‹_›) (fun a b => by simp only [Bool.or_eq_true, decide_eq_true_eq]; lia) l).imp fun h => by simpa using h
theorem ksk_P {ok : Addr → Prop} {h : Heap} {kz : List Int} {xs : List P} {vs out : List Value} (nd : kz.Nodup) (hl : kz.length = vs.length) (pv : PVs ok h xs vs) (k : KskOut false kz vs out) : PVs ok h (sortP kz xs) out := by
 obtain ⟨ps, hp, rfl, hs⟩ := k
 have hs' : ps.Pairwise fun a b => a.1 ≤ b.1 := hs.imp fun h => by simpa using h
 have hlx := pv.len
 let T := (kz.zip (xs.zip vs)).mergeSort fun p q => decide (p.1 ≤ q.1)
 have hT : T.Perm (kz.zip (xs.zip vs)) := List.mergeSort_perm _ _
 have sT : T.Pairwise fun a b => a.1 ≤ b.1 := ms_sorted _
 have zv : ∀ {kz : List Int} {xs : List P} {vs : List Value}, vs.length = xs.length → (kz.zip (xs.zip vs)).map (fun t => (t.1, t.2.2)) = kz.zip vs := by
   intro kz
   induction kz with
   | nil => intros; rfl
   | cons k kz ih =>
     intro xs vs hl
     cases xs with
     | nil => cases vs with
       | nil => rfl
       | cons _ _ => simp at hl
     | cons x xs => cases vs with
       | nil => simp at hl
       | cons v vs => simp only [List.zip_cons_cons, List.map_cons]; rw [ih (by simpa using hl)]
 have zx : ∀ {kz : List Int} {xs : List P} {vs : List Value}, vs.length = xs.length → (kz.zip (xs.zip vs)).map (fun t => (t.1, t.2.1)) = kz.zip xs := by
   intro kz
   induction kz with
   | nil => intros; rfl
   | cons k kz ih =>
     intro xs vs hl
     cases xs with
     | nil => cases vs with
       | nil => rfl
       | cons _ _ => simp at hl
     | cons x xs => cases vs with
       | nil => simp at hl
       | cons v vs => simp only [List.zip_cons_cons, List.map_cons]; rw [ih (by simpa using hl)]
 have e1 : ps = T.map (fun t => (t.1, t.2.2)) := sort_uniq nd hp (by rw [← zv (kz := kz) hlx]; exact hT.map _) hs' (by rw [List.pairwise_map]; exact sT)
 have e2 : (kz.zip xs).mergeSort (fun p q => decide (p.1 ≤ q.1)) = T.map (fun t => (t.1, t.2.1)) := sort_uniq nd (List.mergeSort_perm _ _) (by rw [← zx (kz := kz) hlx]; exact hT.map _) (ms_sorted _) (by rw [List.pairwise_map]; exact sT)
 have hall : ∀ t ∈ T, PV ok h t.2.1 t.2.2 := fun t ht => PVs.zip pv t.2 (List.of_mem_zip (a := t.1) (b := t.2) (hT.mem_iff.mp ht)).2
 have := PVs.pairs (L := T.map (·.2)) (ok := ok) (h := h) fun p hp => by
   obtain ⟨t, ht, rfl⟩ := List.mem_map.mp hp
   exact hall t ht
 unfold sortP
 rw [e2, e1]
 simpa [List.map_map, Function.comp_def] using this
noncomputable def keysOf (κ : List P → Option P) : List P → Option (List Int)
 | [] => some []
 | x :: xs => match κ [x], keysOf κ xs with
   | some (.int k), some ks => some (k :: ks)
   | _, _ => none
theorem keysOf_len {κ : List P → Option P} : ∀ {xs : List P} {kz : List Int}, keysOf κ xs = some kz → kz.length = xs.length
 | [], _, e => by obtain rfl := sij e; rfl
 | x :: xs, _, e => by
   dsimp only [keysOf] at e
   split at e
   · rename_i h; obtain rfl := sij e; exact congrArg (· + 1) (keysOf_len h)
   · cases e
theorem keysOf_get {κ : List P → Option P} : ∀ {xs : List P} {kz : List Int} {i : Nat} {x : P} {k : Int}, keysOf κ xs = some kz → xs[i]? = some x → kz[i]? = some k → κ [x] = some (.int k)
 | [], _, i, _, _, _, h, _ => by simp at h
 | x :: xs, _, i, y, k, e, h1, h2 => by
   dsimp only [keysOf] at e
   split at e
   · rename_i h h'
     obtain rfl := sij e
     cases i with
     | zero => simp at h1 h2; subst h1; subst h2; exact h
     | succ i => simp at h1 h2; exact keysOf_get h' h1 h2
   · cases e
noncomputable def cSort (g f : St → Option V) : St → Option V := fun σ => match (f σ).bind (lstOf σ) with
 | some xs => (match keysOf (lamK g []) xs with
   | some kz => if kz.Nodup ∧ xs.length < 64 then some (.p (.lst (sortP kz xs))) else none
   | none => none)
 | none => none
theorem ES_sortK {rm : Nat} {cs : Scope} (i : Nat) {p pos lpos kpos : Pos} {e : PySem.Expr} {f : St → Option V} {rl : Nat} {c P' : Addr} {cn x₀ : Str} {params : Arguments} {lb : PySem.Expr} {cs' : Scope} {g : St → Option V} (hr : rl + 2 ≤ rm)
   (hx : cs.names[i]? = some (Str.ofString "sorted", .globalImplicit)) (hf : ES rm cs e f) (he : ∀ env, starEach [e] env = [(false, eval e env)])
   (hP : (c, P') ∈ tbs) (hq : (P', cn ++ Str.ofString ".<locals>." ++ Str.ofString "<lambda>") ∈ tq) (hmk : markOf cs = some (c, cn)) (hd : ∀ env, defaultsOf params env = ([], [])) (hE : ES rl cs' lb g) (C : NoCell cs' [x₀]) (hcl : ∀ env, closureFor cs' env = pure [])
   (hb : ∀ name qual cl pm cdv ct y, bindArgs (kla_fn name qual params lb cs' cl pm cdv ct) ⟨[y], []⟩ = pure [(x₀, y)]) :
   ES rm cs (.Call (.Name (Str.ofString "sorted") p) [e] [⟨some (Str.ofString "key"), .Lambda params lb cs' lpos, kpos⟩] pos) (cSort g f) := fun G Γ mu s₀ σ ow s v A Q hG hΓ hc hv R hm hQ => by
 unfold cSort at hv
 split at hv
 · rename_i xs hxs
   split at hv
   · rename_i kz hkz
     split at hv
     · rename_i hnd
       obtain rfl := sij hv
       refine wg fun P' bk => ?_
       obtain ⟨v0, hv0, hsq⟩ := Option.bind_eq_some_iff.mp hxs
       refine bk ?_
       with_reducible refine PySem.wpAny_Call_Name_kw ?_
       refine name_B i bn_sorted hG hΓ (hc ▸ hx) R.ok ?_
       refine callWith_kw ?_ (by rw [he]; rfl) (by rw [he]; rfl) rfl rfl
       rw [he]
       refine Calls.spliced_cons (hf G Γ mu s₀ σ ow s _ A _ hG hΓ hc hv0 R hm fun y s₁ vy R₁ o₁ => Calls.spliced_nil ?_)
       show wpAny (model PG G.w) A (evalAll [do let v ← eval (.Lambda params lb cs' lpos) Γ.env; standAt pos; pure v]) _ NoE s₁
       refine PySem.wpAny_evalAll_cons (wpAny_bind ?_)
       refine lam_in_handX (R := R₁) hP hq hmk hd hE C hcl hb hG hΓ hc fun F s₂ R₂ o₂ ok' at' back => ?_
       refine wpAny_bind (wpAny_standAt (wpAny_pure ?_))
       refine PySem.wpAny_evalAll_nil ?_
       have vy₂ : VR s₂.heap ow v0 y := VR.old o₂ R₁.ok.tabs vy
       refine wg fun P' bk => ?_
       obtain ⟨l, ys, rfl, hq', pv⟩ := lst_view R₂ vy₂ hsq
       have hlen : kz.length = ys.length := (keysOf_len hkz).trans pv.len.symm
       have hm2 : Rm (rl + 1) A.in1.in1 := ⟨hm.hd, by have := hm.dp; show A.depth + (rl + 1) < _; lia, by have := hm.un; show A.units + 1 + 1 + 10 * (rl + 1) < _; lia⟩
       refine bk ?_
       refine sorted_raw (G := G.up s₂.heap ow ⟨F, rl + 1, lamK g [], false, 0, fun zz zz => none⟩) at' hq' hlen (by rw [pv.len]; exact hnd.2) ?_ fun D h' tk out c J hD hn hk => ?_
       · intro i v k e1 e2 h tk J
         have pvh : PVs (fun zz => True) h xs ys := (pv.mono (fun b o e zz zz => e) fun zz zz zz zz => trivial).old J.old at'.tabs
         have hx : ∃ x, xs[i]? = some x := by
           have h1 := (List.getElem?_eq_some_iff.mp e1).1
           exact ⟨_, List.getElem?_eq_getElem (by rw [← pv.len]; exact h1)⟩
         refine wg fun P' bk => ?_
         obtain ⟨x, hx⟩ := hx
         obtain ⟨v', e1', px⟩ := pvh.get hx
         refine bk ?_
         rw [e1] at e1'; obtain rfl := sij e1'
         refine ok'.key { s₂ with heap := h, toks := tk } A.in1.in1 [x] [v] (.int k) _ J.at_ hm2 ⟨v, [], rfl, px, rfl⟩ (keysOf_get hkz hx e2) fun y h' tk' py o' ok'' => ?_
         obtain ⟨t', rfl⟩ := py
         exact ⟨h', tk', t', rfl, rfl, o', ok''⟩
       · have pv' := ksk_P hnd.1 hlen (pv.old J.old at'.tabs) hk
         have R₃ := R₂.step tk J.old (back _ J.at_)
         refine hQ (.ref D) _ ⟨D, out.toList, rfl, fun z => absurd (R₂.ow_lt D z) (Nat.not_lt.mpr hD), ⟨_, hn, rfl, c, rfl⟩, pv'⟩ R₃ ((o₁.trans o₂).trans J.old)
     · cases hv
   · cases hv
 · cases hv
noncomputable def wTri (i j k : Nat) (f1 f2 : St → Option (List P)) (g : St → Option V) : SW := fun σ Po => ∃ xs ys d, f1 σ = some xs ∧ f2 (σ.add xs) = some ys ∧ g ((σ.add xs).add ys) = some (.p d) ∧ noLst d = true ∧
 Po .next (((((σ.add xs).add ys).put k (.p d)).put j (.own (σ.own.length + 1))).put i (.own σ.own.length))
theorem S_tri {rm : Nat} {cs : Scope} (i j k : Nat) {x1 x2 x3 : Str} {p1 p2 p3 tp vp pos : Pos} {k1 k2 : Nat} {e1 e2 e3 : PySem.Expr} {f1 f2 : St → Option (List P)} {g : St → Option V}
   (h1 : cs.names[i]? = some (x1, .local)) (h2 : cs.names[j]? = some (x2, .local)) (h3 : cs.names[k]? = some (x3, .local)) (he1 : NS rm cs e1 f1) (he2 : NS rm cs e2 f2) (he3 : ES rm cs e3 g)
   (hst : ∀ env, starEach [e1, e2, e3] env = [(false, eval e1 env), (false, eval e2 env), (false, eval e3 env)])
   (hs : ∀ env : Env, swapsWithSole [.Tuple [.Name x1 p1, .Name x2 p2, .Name x3 p3] k1 tp] (.Tuple [e1, e2, e3] k2 vp) pos.line env = pure false)
   (hw : ∀ Γ : Fi, Γ.cs = cs → swappedStores [.Tuple [.Name x1 p1, .Name x2 p2, .Name x3 p3] k1 tp] (.Tuple [e1, e2, e3] k2 vp) Γ.env = pure (some [x1, x2, x3])) :
   S1 rm cs (.Assign [.Tuple [.Name x1 p1, .Name x2 p2, .Name x3 p3] k1 tp] (.Tuple [e1, e2, e3] k2 vp) pos) (wTri i j k f1 f2 g) := fun G Γ mu s₀ σ ow s A Po Q hG hΓ hc hW R hm hQ => by
 obtain ⟨xs, ys, d, hf1, hf2, hg, hnl, hPo⟩ := hW
 refine Assign_Tuple_swapped ?_ (hs _) (hw Γ hc)
 refine Tuple_ ?_
 rw [hst]
 refine Calls.spliced_cons ?_
 refine he1 G Γ mu s₀ σ ow s xs A _ hG hΓ hc hf1 R hm fun a1 s₁ N₁ R₁ o₁ => ?_
 obtain ⟨R₁', g₁⟩ := R.add R₁ N₁ o₁
 refine Calls.spliced_cons ?_
 refine he2 G Γ mu s₀ _ _ s₁ ys A _ hG hΓ hc hf2 R₁' hm fun a2 s₂ N₂ R₂ o₂ => ?_
 obtain ⟨R₂', g₂⟩ := R₁'.add R₂ N₂ o₂
 refine Calls.spliced_cons ?_
 refine he3 G Γ mu s₀ _ _ s₂ _ A _ hG hΓ hc hg R₂' hm fun y s₃ vy R₃ o₃ => ?_
 refine Calls.spliced_nil ?_
 refine wpAny_newTuple ?_ (by rw [sizeLine_eq]; simp)
 have R₄ := R₃.step s₃.toks (.push { cls := .type "tuple", data := .seq (List.toArray [.ref a1, .ref a2, y]) }) (R₃.ok.push _)
 have g₄ : Go Γ (ow ++ [a1] ++ [a2]) s₂ (ow ++ [a1] ++ [a2]) { s₃ with heap := s₃.heap.push { cls := .type "tuple", data := .seq (List.toArray [.ref a1, .ref a2, y]) } } := (Go.of_old o₃ R₃.ok).trans (Go.of_old (.push _) (R₃.ok.push _))
 have hT := IsTup.new s₃.heap (List.toArray [.ref a1, .ref a2, y])
 refine wpAny_unpackItems_tuple (items := List.toArray [.ref a1, .ref a2, y]) hm.hd hT fun h' he => ?_
 have hk : ∀ b o, (s₃.heap.push { cls := .type "tuple", data := .seq (List.toArray [.ref a1, .ref a2, y]) }).get? b = some o → h'.get? b = some o := fun b o e => he b o (Nat.ne_of_lt (Heap.lt_size e)) e
 have ok₅ : G.at h' := ⟨fun b o e => hk b o (R₄.ok.stay b o e), fun q hq => let ⟨ps, e, t, c⟩ := R₄.ok.tabs q hq; ⟨ps, hk _ _ e, t, fun pos cv hc => (c pos cv hc).keeps hk⟩⟩
 have R₅ := R₄.step s₃.toks (.of hk) ok₅
 have g₅ : Go Γ (ow ++ [a1] ++ [a2]) s₂ (ow ++ [a1] ++ [a2]) { s₃ with heap := h', toks := s₃.toks } := g₄.trans (Go.of_old (s' := { s₃ with heap := h', toks := s₃.toks }) (.of hk) ok₅)
 have vy₅ : VR h' (ow ++ [a1] ++ [a2]) (.p d) y := PV.any hnl (vy.mono (ok' := fun zz => True) (fun b o e zz zz => hk b o (Heap.get?_push_of_some _ e)) fun zz zz zz zz => trivial)
 have hlen := R.len
 show wpAny (model PG G.w) A (assignInOrder [fun v => bindName Γ.env x3 v, fun v => bindName Γ.env x2 v, fun v => bindName Γ.env x1 v] [y, .ref a2, .ref a1]) _ NoE _
 refine wpAny_assignInOrder_more (wpAny_bindName ?_)
 refine store_of k R₅ hΓ (hc ▸ h3) (.inl rfl) vy₅ fun s₆ R₆ g₆ => ?_
 refine wpAny_assignInOrder_more (wpAny_bindName ?_)
 refine store_of j R₆ hΓ (hc ▸ h2) (.inl rfl) (v := .own (σ.own.length + 1)) ⟨a2, by rw [← hlen]; simp, rfl⟩ fun s₇ R₇ g₇ => ?_
 refine wpAny_assignInOrder_more (wpAny_bindName ?_)
 refine store_of i R₇ hΓ (hc ▸ h1) (.inl rfl) (v := .own σ.own.length) ⟨a1, by rw [← hlen]; simp, rfl⟩ fun s₈ R₈ g₈ => ?_
 refine wpAny_pure ?_
 exact hQ .next _ _ s₈ _ hPo R₈ (g₁.trans (g₂.trans (g₅.trans (g₆.trans (g₇.trans g₈))))) rfl
section
variable {rm : Nat} {cs : Scope}
theorem for_loopT {G : Gd} {Γ : Fi} {mu : List Addr} {s₀ s s₁ : Shared} {σ : St} {ow : List Addr} {A : Around} {Po : Post} {R : Result → Shared → Prop} {t : PySem.Expr} {at_ : St → V → Option St} {b : List Stmt} {W : SW} {it : Addr} {chk : St → Prop} {xs : List P} {there : Heap → List Addr → List P → Prop}
   (hat : AT rm cs t at_) (hb : SS rm cs b W) (hck : ∀ σ v σ', at_ σ v = some σ' → chk σ → chk σ') (hG : G.Ok) (hΓ : Γ.Ok G mu s₀.heap) (hc : Γ.cs = cs) (hm : RmG rm Γ A) (hit : s₀.heap.objs.size ≤ it)
   (X : Src G Γ mu s₀ A it chk there) (hl : ∀ (s' : Shared) ow' xs y (Q : Unit → Shared → Prop) (E : Value → Shared → Prop), there s'.heap ow' xs → Q () s' → wpAny (model PG G.w) A (letOwnedTupleGo t (.ref it) y) Q E s') (h0 : there s₁.heap ow xs) (hk : chk σ) (hW : wTurns chk at_ W xs σ Po) (Rr : Rp G Γ mu s₀ σ ow s₁) (g0 : Go Γ ow s ow s₁) (hn : s.heap.get? it = none)
   (hR : ∀ fl σ' ow' s' f, Po fl σ' → (fl = .next ∨ ∃ v, fl = .ret v) → Rp G Γ mu s₀ σ' ow' s' → Go Γ ow s ow' s' → FR s'.heap ow' fl f → R (.ok f) s') :
   codeAny (model PG G.w) A (.forLoop t (.ref it) b [] Γ.env) R s₁ := by
 refine codeAny_forLoop_any (FInv G Γ mu s₀ s ow there chk at_ W Po) ?_ xs.length ⟨xs, σ, ow, rfl, h0, hk, hW, Rr, g0⟩
 rintro n s' ⟨xs, σ', ow', rfl, ht, hk, hW, Rr, g⟩
 obtain ⟨ob, hob, S⟩ := X.obj ht
 cases xs with
 | nil =>
   refine wpAny_mono (X.stop Rr hk ht fun h' tk he => ?_) (fun zz zz h => h) fun zz zz h => h.elim
   with_reducible refine wpAny_execs_nil ?_
   have R' := Rr.ext hΓ tk he hob S hit
   exact hR .next σ' ow' _ _ hW (.inl rfl) R' (g.skip (s₂ := { s' with heap := h', toks := tk }) he hn) rfl
 | cons x xs =>
   obtain ⟨σ₁, h1, h2⟩ := hW
   refine wpAny_mono (X.next Rr hk ht fun y h' tk py he ht' => ?_) (fun zz zz h => h) fun zz zz h => h.elim
   have R' := Rr.ext hΓ tk he hob S hit
   have g' := g.skip (s₂ := { s' with heap := h', toks := tk }) he hn
   have py' : VR h' ow' (.p x) y := PV.mono (fun b o e ⟨vs, n, d⟩ _ => he b o (fun z => by subst z; rw [hob] at e; obtain rfl := sij e; exact S.seq d) e) (fun zz zz zz k => k) py
   refine hl { s' with heap := h', toks := tk } ow' xs y _ _ ht' ?_
   refine wpAny_mono (hat G Γ mu s₀ σ' σ₁ ow' _ (.p x) y A (fun zz s₂ => _) hG hΓ hc h1 R' hm py' fun s₂ R₂ g₂ => ?_) (fun zz zz h => h) fun zz zz h => h.elim
   refine wpAny_mono (hb G Γ mu s₀ σ₁ ow' s₂ A _ (fun f s₃ => _) hG hΓ hc h2 R₂ hm fun fl σ₃ ow₃ s₃ f hPo R₃ g₃ hf => ?_) (fun zz zz h => h) fun zz zz h => h.elim
   have gg := (g'.trans g₂).trans g₃
   have tt := X.go R₂ g₃ (X.go R' g₂ ht')
   cases fl with
   | next =>
     cases hf
     exact ⟨xs.length, Nat.lt_succ_self _, xs, σ₃, ow₃, rfl, tt, hPo.1, hPo.2, R₃, gg⟩
   | cont =>
     cases hf
     exact ⟨xs.length, Nat.lt_succ_self _, xs, σ₃, ow₃, rfl, tt, hPo.1, hPo.2, R₃, gg⟩
   | brk =>
     cases hf
     exact hR .next σ₃ ow₃ s₃ _ hPo (.inl rfl) R₃ gg rfl
   | ret v =>
     obtain ⟨z, rfl, vz⟩ := hf
     exact hR (.ret v) σ₃ ow₃ s₃ _ hPo (.inr ⟨v, rfl⟩) R₃ gg ⟨z, rfl, vz⟩
noncomputable def wForT (at_ : St → V → Option St) (f : St → Option V) (W : SW) : SW := fun σ Po => ∃ xs, f σ = some (.p (.lst xs)) ∧ wTurns (fun zz => True) at_ W xs σ Po
theorem S_forT {es : List PySem.Expr} {kk : Nat} {tp : Pos} {e : PySem.Expr} {b : List Stmt} {pos : Pos} {at_ : St → V → Option St} {f : St → Option V} {W : SW} (hat : AT rm cs (.Tuple es kk tp) at_) (he : ES rm cs e f) (hb : SS rm cs b W)
   (hs : ∀ env x, foldedSetIterable e env x = pure x) : S1 rm cs (.For (.Tuple es kk tp) e b [] pos) (wForT at_ f W) := fun G Γ mu s₀ σ ow s A Po Q hG hΓ hc hW R hm hQ => by
 obtain ⟨xs, hv, hW⟩ := hW
 with_reducible refine wpAny_For ?_ (hs _)
 refine he G Γ mu s₀ σ ow s _ A _ hG hΓ hc hv R hm fun y s₁ vy R₁ o₁ => ?_
 have g₁ : Go Γ ow s ow s₁ := Go.of_old o₁ R₁.ok
 simp only [VR, PV] at vy
 obtain ⟨l, ys, rfl, hoff, hq, p⟩ := vy
 with_reducible refine wpAny_pyIter_list hq ?_
 refine for_loopT (s := s) (there := fun h ow xs' => ∃ k, h.IsListIter s₁.heap.objs.size l k ∧ Still h ow l ys xs ∧ xs' = xs.drop k) hat hb (fun σ v σ' h k => k) hG hΓ hc hm (R₁.above hΓ) (src_list hm.hd) (fun s' ow' xs' y Q E ht hq' => ?_) ⟨0, ⟨_, Heap.get?_push_size _ rfl, rfl, rfl⟩, ⟨hq.push _, hoff, p.push⟩, rfl⟩ trivial hW
   (R₁.step _ (.push _) (R₁.ok.push _)) (g₁.trans (Go.of_old (s' := { s₁ with heap := _ }) (.push _) (R₁.ok.push _))) (none_back o₁ R₁.ok.tabs (get_size _)) fun fl σ' ow' s' f hPo zz R' g' hf => hQ fl σ' ow' s' f hPo R' g' hf
 obtain ⟨k, hit, _⟩ := ht
 cases y with
 | ref T => exact wpAny_letOwnedTupleGo_listiter hit hq'
 | _ => exact wpAny_pure hq'
end
noncomputable def notStar : PySem.Expr → Bool
 | .Starred .. => false
 | _ => true
theorem sEc {e : PySem.Expr} (h : notStar e = true) (es : List PySem.Expr) (env : Env) : starEach (e :: es) env = (false, eval e env) :: starEach es env := by
 cases e <;> first | rfl | cases h
theorem closureFor_one {scope : Scope} {env : Env} {a x : Str} {c : Addr} (hs : scope.names = [(a, .local), (x, .free)]) (h : env.cells.lookup x = some c) : closureFor scope env = pure [(x, c)] := by
 rw [closureFor_eq (fun zz => c) (fun y hy => by
   rw [hs] at hy
   simp at hy
   rw [hy]; exact h), hs]
 rfl
noncomputable def W_law_found (opD opR : List P → Option P) (opB : Ky → List P → Option P) : SW := (wSeq (wSet 2 (cK (.int 1))) (wSeq (wForT (fun σ v => (seqOf σ v).bind fun xs => putAll [3, 4] xs σ) (cV 0) (wSeq (wAug 2 imulP (cV 4)) wNil)) (wSeq (wSet 5 (cK (.int 0))) (wSeq (wForT (fun σ v => (seqOf σ v).bind fun xs => putAll [3, 4] xs σ) (cV 0) (wSeq (wSet 6 (lift2 fdivP (cV 2) (cV 4))) (wSeq (wSet 7 (cFz (nComp [] (cB (lift2 eqP (cSub (cV 1) (cK (.int 0))) (cK (.int 1)))) (cSub (cV 1) (cK (.int 1))) (srcL (cApp (opF opR) (cCons (cV 4) (cCons (cSub (cApp (opF opD) (cCons (cV 6) (cCons (cV 4) cNil))) (cK (.int 1))) cNil))))))) (wSeq (wAug 5 iaddP (lift2 mulP (lift2 mulP (cV 3) (cV 6)) (cSub (cV 7) (cK (.int 0))))) wNil)))) (wSeq (wSet 8 (cApp (opF opR) (cCons (cV 2) (cCons (cSub (cApp (opF opD) (cCons (cV 5) (cCons (cV 2) cNil))) (cK (.int 1))) cNil)))) (wSeq (wSet 9 (cLst (cCons (cK (.int 1)) (cCons (cSub (cSub (cV 0) (lift1 negP (cK (.int 1)))) (cK (.int 1))) (cCons (lift2 mulP (cSub (cSub (cV 0) (lift1 negP (cK (.int 1)))) (cK (.int 1))) (cSub (cSub (cV 0) (lift1 negP (cK (.int 2)))) (cK (.int 1)))) cNil))))) (wSeq (wSet 10 (lift2 subP (cKw 1 opB (lift2 mulP (lift2 mulP (lift2 mulP (cK (.int 4)) (cV 0)) (cV 0)) (cV 1)) (cCons (cV 9) (cCons (cV 2) cNil)) (fun σ => (σ.vals[1]?).join.bind fun v => (toP σ v).map fun p => [some (.p p)])) (cK (.int 1)))) (wSeq (wSet 11 (cKw 1 opB (lift1 negP (cSub (cV 0) (cK (.int 0)))) (cCons (cV 8) (cCons (lift2 mulP (lift2 mulP (lift1 negP (cK (.int 2))) (cV 1)) (cSub (cV 9) (cV 10))) cNil)) (fun zz => some []))) (wSeq (wSet 12 (lift2 subP (cKw 1 opB (cApp absA (cCons (cSub (cV 0) (cK (.int 1))) cNil)) (cCons (cV 8) (cCons (cSub (cV 9) (cV 10)) cNil)) (fun zz => some [])) (cK (.int 1)))) (wSeq (wRetN (nLst (cCons (cV 10) (cCons (lift2 eqP (cV 11) (cV 12)) (cCons (cSub (cSub (cV 8) (cV 11)) (cK (.int 0))) (cCons (cSub (cSub (cV 8) (cV 11)) (cK (.int 1))) cNil)))))) wNil))))))))))
theorem d_law_found {rm : Nat} {opD opR : List P → Option P} {opB : Ky → List P → Option P} (hd : Fn rm 56 opD) (hr : Fn rm 139 opR) (hB : FnKw rm 74 opB) (hop : ∀ F n κ ps, opB ⟨F, n, κ, false, 0, fun zz zz => none⟩ ps = opB ⟨0, n, κ, false, 0, fun zz zz => none⟩ ps) : ∃ qual params body cs dV kV, FnRecM 144 143 qual params body cs dV kV ∧ SS rm cs body (W_law_found opD opR opB) ∧ TakesPos qual params body cs dV kV [Str.ofString "rows", Str.ofString "bound"] ∧ Celled cs [Str.ofString "rows", Str.ofString "bound"] 14 (some (143, qual)) :=
 ⟨_, _, _, _, _, _, ⟨fun w => ⟨_, _, _, _, _, _, _, _, by rfl, by kernel_rfl⟩⟩, (SS_cons (S_set 2 rfl (.inl rfl) ES_int (fun zz zz => rfl)) (SS_cons (S_forT (AT_tup (Tgts.cons (i := 3) rfl (.inl rfl) (Tgts.cons (i := 4) rfl (.inl rfl) Tgts.nil))) (ES_var 0 rfl (.inl rfl) rfl) (SS_cons (S_aug 2 rfl (.inl rfl) rfl (ES_var 4 rfl (.inl rfl) rfl) ok_imul) SS_nil) (fun zz zz => rfl)) (SS_cons (S_set 5 rfl (.inl rfl) ES_int (fun zz zz => rfl)) (SS_cons (S_forT (AT_tup (Tgts.cons (i := 3) rfl (.inl rfl) (Tgts.cons (i := 4) rfl (.inl rfl) Tgts.nil))) (ES_var 0 rfl (.inl rfl) rfl) (SS_cons (S_set 6 rfl (.inl rfl) (ES_bin (ES_var 2 rfl (.inl rfl) rfl) (ES_var 4 rfl (.inl rfl) rfl) ok_fdiv) (fun zz zz => rfl)) (SS_cons (S_comp 7 rfl (⟨rfl, rfl, by decide, by decide, by decide, rfl, by decide, rfl, by kernel_rfl⟩ : Blk _ _ _ (Str.ofString "row") []) (IS_list (ES_callF 13 fk_law_run rfl (ESs_cons (ES_var 4 rfl (.inl rfl) rfl) (ESs_cons (ES_sub (ES_callF 14 fk_int_divmod rfl (ESs_cons (ES_var 6 rfl (.inl rfl) rfl) (ESs_cons (ES_var 4 rfl (.inl rfl) rfl) ESs_nil (sEc rfl _)) (sEc rfl _)) (ok_fn hd) (fun zz => rfl)) ES_int (fun zz zz => rfl)) ESs_nil (sEc rfl _)) (sEc rfl _)) (ok_fn hr) (fun zz => rfl))) (TS_one (CT_cmp (ES_sub (ES_var 1 rfl (.inl rfl) rfl) ES_int (fun zz zz => rfl)) ES_int ok_eq rfl)) (ES_sub (ES_var 1 rfl (.inl rfl) rfl) ES_int (fun zz zz => rfl)) (fun zz zz => rfl) (fun env h => by cases env; cases h; rfl)) (SS_cons (S_aug 5 rfl (.inl rfl) rfl (ES_bin (ES_bin (ES_var 3 rfl (.inl rfl) rfl) (ES_var 6 rfl (.inl rfl) rfl) ok_mul) (ES_sub (ES_var 7 rfl (.inl rfl) rfl) ES_int (fun zz zz => rfl)) ok_mul) ok_iadd) SS_nil))) (fun zz zz => rfl)) (SS_cons (S_set 8 rfl (.inl rfl) (ES_callF 13 fk_law_run rfl (ESs_cons (ES_var 2 rfl (.inl rfl) rfl) (ESs_cons (ES_sub (ES_callF 14 fk_int_divmod rfl (ESs_cons (ES_var 5 rfl (.inl rfl) rfl) (ESs_cons (ES_var 2 rfl (.inl rfl) rfl) ESs_nil (sEc rfl _)) (sEc rfl _)) (ok_fn hd) (fun zz => rfl)) ES_int (fun zz zz => rfl)) ESs_nil (sEc rfl _)) (sEc rfl _)) (ok_fn hr) (fun zz => rfl)) (fun zz zz => rfl)) (SS_cons (S_set 9 rfl (.inl rfl) (ES_lst (ESs_cons ES_int (ESs_cons (ES_sub (ES_sub (ES_var 0 rfl (.inl rfl) rfl) (ES_un ES_int ok_neg) (fun zz zz => rfl)) ES_int (fun zz zz => rfl)) (ESs_cons (ES_bin (ES_sub (ES_sub (ES_var 0 rfl (.inl rfl) rfl) (ES_un ES_int ok_neg) (fun zz zz => rfl)) ES_int (fun zz zz => rfl)) (ES_sub (ES_sub (ES_var 0 rfl (.inl rfl) rfl) (ES_un ES_int ok_neg) (fun zz zz => rfl)) ES_int (fun zz zz => rfl)) ok_mul) ESs_nil (sEc rfl _)) (sEc rfl _)) (sEc rfl _))) (fun zz zz => rfl)) (SS_cons (S_set 10 rfl (.inl rfl) (ES_bin (ES_kw (rl := 0) (c := 143) (P' := 141) (cn := Str.ofString "_law_found") 15 fk_bisect_right rfl (ESs_cons (ES_var 9 rfl (.inl rfl) rfl) (ESs_cons (ES_var 2 rfl (.inl rfl) rfl) ESs_nil (sEc rfl _)) (sEc rfl _)) hB hop (fun zz => rfl) (by decide) (by decide) (by kernel_rfl) (fun zz => rfl) (ES_bin (ES_bin (ES_bin ES_int (ES_var 0 rfl (.inl rfl) rfl) ok_mul) (ES_var 0 rfl (.inl rfl) rfl) ok_mul) (ES_var 1 rfl (.inr (.inr rfl)) rfl) ok_mul) ⟨rfl, by decide, by decide, rfl, rfl, rfl, by kernel_rfl⟩ (takes1 1 rfl rfl (fun zz zz h => closureFor_one rfl h)) (fun zz zz zz zz zz zz zz => rfl)) ES_int ok_sub) (fun zz zz => rfl)) (SS_cons (S_set 11 rfl (.inl rfl) (ES_kw (rl := 0) (c := 143) (P' := 141) (cn := Str.ofString "_law_found") 15 fk_bisect_right rfl (ESs_cons (ES_var 8 rfl (.inl rfl) rfl) (ESs_cons (ES_bin (ES_bin (ES_un ES_int ok_neg) (ES_var 1 rfl (.inr (.inl rfl)) rfl) ok_mul) (ES_sub (ES_var 9 rfl (.inl rfl) rfl) (ES_var 10 rfl (.inl rfl) rfl) (fun zz zz => rfl)) ok_mul) ESs_nil (sEc rfl _)) (sEc rfl _)) hB hop (fun zz => rfl) (by decide) (by decide) (by kernel_rfl) (fun zz => rfl) (ES_un (ES_sub (ES_var 0 rfl (.inl rfl) rfl) ES_int (fun zz zz => rfl)) ok_neg) ⟨rfl, by decide, by decide, rfl, rfl, rfl, by kernel_rfl⟩ (takes0 (fun zz => rfl)) (fun zz zz zz zz zz zz zz => rfl)) (fun zz zz => rfl)) (SS_cons (S_set 12 rfl (.inl rfl) (ES_bin (ES_kw (rl := 0) (c := 143) (P' := 141) (cn := Str.ofString "_law_found") 15 fk_bisect_right rfl (ESs_cons (ES_var 8 rfl (.inl rfl) rfl) (ESs_cons (ES_sub (ES_var 9 rfl (.inl rfl) rfl) (ES_var 10 rfl (.inl rfl) rfl) (fun zz zz => rfl)) ESs_nil (sEc rfl _)) (sEc rfl _)) hB hop (fun zz => rfl) (by decide) (by decide) (by kernel_rfl) (fun zz => rfl) (ES_callB 1 bn_abs rfl (ESs_cons (ES_sub (ES_var 0 rfl (.inl rfl) rfl) ES_int (fun zz zz => rfl)) ESs_nil (sEc rfl _)) ok_abs (fun zz => rfl) (fun zz zz => rfl)) ⟨rfl, by decide, by decide, rfl, rfl, rfl, by kernel_rfl⟩ (takes0 (fun zz => rfl)) (fun zz zz zz zz zz zz zz => rfl)) ES_int ok_sub) (fun zz zz => rfl)) (SS_cons (S_retNew (NS_lst (ESs_cons (ES_var 10 rfl (.inl rfl) rfl) (ESs_cons (ES_cmp (ES_var 11 rfl (.inl rfl) rfl) (ES_var 12 rfl (.inl rfl) rfl) ok_eq rfl) (ESs_cons (ES_sub (ES_sub (ES_var 8 rfl (.inl rfl) rfl) (ES_var 11 rfl (.inl rfl) rfl) (fun zz zz => rfl)) ES_int (fun zz zz => rfl)) (ESs_cons (ES_sub (ES_sub (ES_var 8 rfl (.inl rfl) rfl) (ES_var 11 rfl (.inl rfl) rfl) (fun zz zz => rfl)) ES_int (fun zz zz => rfl)) ESs_nil (sEc rfl _)) (sEc rfl _)) (sEc rfl _)) (sEc rfl _)))) SS_nil)))))))))), (by exact takesK2 fun zz zz zz zz zz zz zz zz zz => BindsTo.of_eq rfl), ⟨rfl, by decide, by decide, by decide, rfl, rfl, rfl, rfl, by kernel_rfl⟩⟩
end Mine
end
section
open PySem PySem.W PySem.Calls PyProof.Rows
namespace Mine
set_option maxHeartbeats 4000000
noncomputable def wl3 : SW := (wSet 5 (cFz (nSl (cFz (nSl (cLst (cCons (cK (.int 11)) (cCons (cK (.int 13)) (cCons (cK (.int 17)) (cCons (cK (.int 19)) (cCons (cK (.int 23)) (cCons (cK (.int 29)) (cCons (cK (.int 31)) (cCons (cK (.int 37)) (cCons (cK (.int 41)) (cCons (cK (.int 43)) (cCons (cK (.int 47)) (cCons (cK (.int 53)) (cCons (cK (.int 59)) (cCons (cK (.int 61)) cNil))))))))))))))) (kInt (lift2 modP (cSub (cV 4) (cK (.int 0))) (cK (.int 8)))) kNo kNo)) kNo (kInt (cK (.int 7))) kNo)))
noncomputable def wt8 : SW := (wNew 27 (nLst (cCons (lift2 addP (lift2 addP (cK (.str (Str.ofString "227 ("))) (cV 26)) (cK (.str (Str.ofString ")")))) (cCons (lift2 addP (lift2 addP (cK (.str (Str.ofString "229 "))) (cV 26)) (cK (.str (Str.ofString ")")))) (cCons (lift2 addP (cK (.str (Str.ofString "229 ("))) (cV 26)) (cCons (lift2 addP (lift2 addP (cK (.str (Str.ofString "229 ("))) (cV 26)) (cK (.str (Str.ofString "x)")))) (cCons (cK (.str (Str.ofString "229 272)"))) cNil)))))))
noncomputable def wt9 : SW := (wExt (cV 27) (nLst (cCons (lift2 addP (lift2 addP (lift2 addP (cK (.str (Str.ofString "229 ("))) (cV 25)) (cV 26)) (cK (.str (Str.ofString ")")))) (cCons (lift2 addP (lift2 addP (cK (.str (Str.ofString "229 ("))) (cV 26)) (cV 25)) (cCons (lift2 addP (lift2 addP (lift2 addP (lift2 addP (cK (.str (Str.ofString "229 ("))) (lift2 mulP (cV 25) (cK (.int 3)))) (cK (.str (Str.ofString "x")))) (cV 25)) (cK (.str (Str.ofString ")")))) cNil)))))
noncomputable def wt7 : SW := (wSet 26 (lift2 addP (lift2 addP (lift2 addP (lift2 addP (cV 25) (cSub (cLst (cCons (cK (.str (Str.ofString ""))) (cCons (cK (.str (Str.ofString "h"))) cNil))) (lift2 modP (cV 3) (cK (.int 2))))) (lift2 mulP (cV 25) (cK (.int 2)))) (cApp strA (cCons (lift2 addP (lift2 mulP (cV 24) (cK (.int 64))) (cSub (cV 5) (cV 3))) cNil))) (cV 25)))
noncomputable def wl9 : SW := (wForR (fun σ v => some (σ.put 13 v)) (lift2 modP (cSub (cV 4) (cK (.int 2))) (cK (.int 5))) (wSeq (wApp (cV 11) (xPop (cV 10) (lift2 modP (cV 12) (cApp lenA (cCons (cV 10) cNil))))) (wSeq (wAug 6 fdivP (cSub (cV 5) (cSub (cV 11) (lift1 negP (cK (.int 1)))))) (wSeq (wAug 12 fdivP (lift2 subP (cK (.int 7)) (cV 13))) wNil))))
noncomputable def wl13 : SW := (wForR (fun σ v => some (σ.put 13 v)) (lift2 modP (cSub (cV 4) (cK (.int 3))) (lift2 addP (cV 15) (cK (.int 1)))) (wSeq (wApp (cV 17) (xPop (cV 16) (lift2 modP (cV 12) (cApp lenA (cCons (cV 16) cNil))))) (wSeq (wAug 12 fdivP (lift2 addP (cApp lenA (cCons (cV 16) cNil)) (cK (.int 1)))) wNil)))
noncomputable def wt5 : SW := (wIf (cB (cIn (cV 3) (cV 17))) (wSeq (wSet 24 (lift2 modP (lift2 addP (lift2 addP (cV 24) (cK (.int 1))) (lift2 modP (cV 20) (lift2 subP (cSub (cV 5) (cV 3)) (cK (.int 1))))) (cSub (cV 5) (cV 3)))) (wSeq (wAug 20 fdivP (cK (.int 60))) wNil)) wNil)
noncomputable def wt3 : SW := (wIf (cB (lift2V neD (cLst (cCons (cV 23) (cCons (lift2 mulP (cV 22) (cV 24)) cNil))) (cLst (cCons (lift2 fdivP (cV 9) (cSub (cV 5) (cV 3))) (cCons (lift2 modP (cV 9) (cSub (cV 5) (cV 3))) cNil))))) (wSeq (wRet (cK (.bool false))) wNil) wNil)
noncomputable def wl10 : SW := (wSet 14 (cLst (cCons (cK (.int 1)) (cCons (cSub (cV 5) (cSub (cV 10) (lift1 negP (cK (.int 1))))) (cCons (lift2 mulP (cSub (cV 5) (cSub (cV 10) (lift1 negP (cK (.int 1))))) (cSub (cV 5) (cSub (cV 10) (lift1 negP (cK (.int 2)))))) cNil)))))
noncomputable def wl11 : SW := (wSet 15 (lift2 subP (cApp lenA (cCons (cFz (nComp [some 8, some 6] (cB (lift2 leP (lift2 mulP (lift2 mulP (lift2 mulP (cK (.int 4)) (cV 1)) (cV 1)) (cV 2)) (cV 3))) (cV 1) (srcL (cV 14)))) cNil)) (cK (.int 1))))
noncomputable def wl2 : SW := (wSet 4 (cFz (nComp [none, some 2, some 1] (cKB true) (lift2 addP (cSub (cV 3) (cV 1)) (cApp sumA (cCons (cFz (nSl (cV 4) (kInt (cV 1)) kNo (kInt (cK (.int 6))))) cNil))) (srcR (cK (.int 6))))))
noncomputable def wt11 : SW := (wPort 29 (cIf (cB (cIn (cV 3) (cV 11))) (cSub (cV 27) (cV 28)) (lift2 addP (lift2 addP (cK (.str (Str.ofString "229 Entering ) ("))) (cV 26)) (cK (.str (Str.ofString ") (a)"))))))
noncomputable def wl7 : SW := (wSet 9 (lift2 addP (lift2 subP (lift2 modP (cSub (cV 4) (cK (.int 1))) (lift2 subP (lift2 mulP (cK (.int 2)) (cV 8)) (cK (.int 1)))) (cV 8)) (cK (.int 1))))
noncomputable def wl1 : SW := (wSet 2 (cLst (cCons (cK (.int 0)) (cCons (cK (.int 194)) (cCons (cK (.int 177)) (cCons (cK (.int 7)) (cCons (cK (.int 4)) (cCons (cK (.int 3)) cNil))))))))
noncomputable def wt6 : SW := (wSet 25 (cSub (cK (.str (Str.ofString "|!;~"))) (lift2 modP (lift2 addP (lift2 fdivP (cSub (cV 4) (cK (.int 5))) (cK (.int 7))) (cV 3)) (cK (.int 4)))))
noncomputable def wl6 : SW := (wSet 8 (lift2 fdivP (cV 6) (lift2 mulP (cK (.int 4)) (lift2 powP (lift2 mulP (cSub (cV 5) (cK (.int 5))) (cSub (cV 5) (cK (.int 6)))) (cK (.int 2))))))
noncomputable def wl8 : SW := (wTri 10 11 12 (nRng (cK (.int 7))) (nLst cNil) (lift2 modP (lift2 fdivP (cSub (cV 4) (cK (.int 2))) (cK (.int 5))) (cK (.int 840))))
noncomputable def wl12 : SW := (wTri 16 17 12 (nCp (cV 10)) (nLst cNil) (lift2 modP (lift2 fdivP (cSub (cV 4) (cK (.int 3))) (cK (.int 3))) (cK (.int 42))))
noncomputable def wt1 : SW := (wSet 22 (cIf (cB (lift2 eqP (lift2 modP (cV 3) (cK (.int 2))) (cK (.int 1)))) (cK (.int 1)) (lift1 negP (cK (.int 1)))))
noncomputable def wl16 : SW := (wIf (cB (lift2V neD (cV 19) (cSort (cSub (cV 0) (cK (.int 1))) (cV 18)))) (wSeq (wRet (cK (.bool false))) wNil) wNil)
noncomputable def wt10 : SW := (wSet 28 (lift2 modP (lift2 addP (lift2 fdivP (cSub (cV 4) (cK (.int 5))) (cK (.int 28))) (cV 21)) (cK (.int 8))))
noncomputable def wl14 : SW := (wTri 18 19 20 (nLst cNil) (nLst cNil) (lift2 modP (cSub (cV 4) (cK (.int 4))) (cK (.int 3600))))
noncomputable def wl20 : SW := (wFor (fun σ v => some (σ.put 3 v)) (cV 17) (wSeq (wAug 35 imulP (cSub (cV 5) (cV 3))) wNil))
noncomputable def wt0 : SW := (wSet 3 (lift2 modP (lift2 addP (cV 21) (cSub (cV 4) (cK (.int 5)))) (cK (.int 7))))
noncomputable def wl5 : SW := (wFor (fun σ v => some (σ.put 7 v)) (cV 5) (wSeq (wAug 6 imulP (cV 7)) wNil))
noncomputable def wl22 : SW := (wFin (lift2 eqP (cApp absA (cCons (cV 34) cNil)) (cV 35)) (cV 9))
noncomputable def W_law (rm : Nat) (opD opF0 : List P → Option P) (opB : Ky → List P → Option P) : SW := (wSeq (wSet 1 (cFz (nSl (cV 0) kNo (kInt (cK (.int 60))) kNo))) (wSeq wl1 (wSeq wl2 (wSeq wl3 (wSeq (wSet 6 (cK (.int 1))) (wSeq wl5 (wSeq wl6 (wSeq wl7 (wSeq wl8 (wSeq wl9 (wSeq wl10 (wSeq wl11 (wSeq wl12 (wSeq wl13 (wSeq wl14 (wSeq (wForR (fun σ v => some (σ.put 21 v)) (cK (.int 7)) (wSeq wt0 (wSeq wt1 (wSeq (wUnp [23, 24] (cApp (opF opD) (cCons (lift2 mulP (cV 22) (cV 9)) (cCons (lift2 mulP (cV 22) (cSub (cV 5) (cV 3))) cNil)))) (wSeq wt3 (wSeq (wAug 24 imulP (cV 22)) (wSeq wt5 (wSeq wt6 (wSeq wt7 (wSeq wt8 (wSeq wt9 (wSeq wt10 (wSeq wt11 (wSeq (wIf (cB (cIn (cV 3) (cV 11))) (wSeq (wIf (cB (lift2V neD (cV 29) (cLst (cCons (cIf (cB (lift2 eqP (cV 28) (cK (.int 0)))) (cK (.str (Str.ofString "reply"))) (cIf (cB (lift2 eqP (cV 28) (cK (.int 7)))) (cK (.str (Str.ofString "number"))) (cK (.str (Str.ofString "proto"))))) (cCons (cSub (cV 27) (cV 28)) cNil))))) (wSeq (wRet (cK (.bool false))) wNil) wNil) wNil) (wSeq (wIf (cOr (cB (lift2V neD (cV 29) (cTup (cCons (cK (.str (Str.ofString "peer"))) (cCons (lift2 addP (lift2 mulP (cV 24) (cK (.int 64))) (cSub (cV 5) (cV 3))) cNil))))) (cOr (cNot (cTr (cApp isIntA (cCons (cSub (cV 29) (cK (.int 1))) (cCons (cK (.raw (.type "int"))) cNil))))) (cKB false))) (wSeq (wRet (cK (.bool false))) wNil) wNil) (wSeq (wUnp [30, 7] (cApp (opF opD) (cCons (cSub (cV 29) (cK (.int 1))) (cCons (cK (.int 64)) cNil)))) (wSeq (wInsort (rm + 1) 0 opB (cSub (cV 0) (cK (.int 1))) (cCons (cV 19) (cCons (cLst (cCons (cV 30) (cCons (cV 7) cNil))) cNil))) (wSeq (wApp (cV 18) (xOf (cLst (cCons (cV 24) (cCons (cSub (cV 5) (cV 3)) cNil))))) wNil))))) wNil)))))))))))))) (wSeq wl16 (wSeq (wUnp [31, 32, 33, 34] (cApp (opF opF0) (cCons (cV 19) (cCons (cV 8) cNil)))) (wSeq (wIf (cOr (cB (lift2 neP (cV 31) (cV 15))) (cOr (cB (lift2 isNotP (cV 32) (cK (.bool true)))) (cOr (cB (lift2V neD (cApp (opF opD) (cCons (cV 33) (cCons (cV 34) cNil))) (cTup (cCons (cV 9) (cCons (cK (.int 0)) cNil))))) (cKB false)))) (wSeq (wRet (cK (.bool false))) wNil) wNil) (wSeq (wSet 35 (cK (.int 1))) (wSeq wl20 (wSeq (wForR (fun σ v => some (σ.put 3 v)) (cK (.int 7)) (wSeq (wUnp [23, 36] (cApp (opF opD) (cCons (cV 34) (cCons (cSub (cV 5) (cV 3)) cNil)))) (wSeq (wIf (cOr (cB (lift2 neP (lift2 addP (lift2 mulP (cV 23) (cSub (cV 5) (cV 3))) (cV 36)) (cV 34))) (cOr (cNot (cCh leP ltP (cK (.int 0)) (cV 36) (cSub (cV 5) (cV 3)))) (cOr (cB (lift2 neP (lift2 eqP (cV 36) (cK (.int 0))) (cIn (cV 3) (cV 17)))) (cKB false)))) (wSeq (wRet (cK (.bool false))) wNil) wNil) wNil))) (wSeq wl22 wNil)))))))))))))))))))))))
theorem d_law {rm : Nat} {opD opF0 : List P → Option P} {opB : Ky → List P → Option P} (h7 : 7 ≤ rm) (hd : Fn (rm + 2) 56 opD) (hfo : Fn (rm + 2) 144 opF0) (hB : FnKw (rm + 1) 74 opB) : ∃ qual params body cs dV kV, FnRecM 149 148 qual params body cs dV kV ∧ SSC (rm + 2) cs body (W_law rm opD opF0 opB) ∧ TakesPos qual params body cs dV kV [Str.ofString "script"] ∧ Celled cs [Str.ofString "script"] 49 (some (148, qual)) := by
 refine ⟨_, _, _, _, _, _, ⟨fun w => ⟨_, _, _, _, _, _, _, _, by rfl, by kernel_rfl⟩⟩, ?_, ?_, ?_⟩
 · delta W_law wl3 wt8 wt9 wt7 wl9 wl13 wt5 wt3 wl10 wl11 wl2 wt11 wl7 wl1 wt6 wl6 wl8 wl12 wt1 wl16 wt10 wl14 wl20 wt0 wl5 wl22
   with_reducible refine' (SSC_cons (S1C_of (S_set 1 ?_ (.inr ?_) (ES_fz (NS_slice (ES_var 0 ?_ (.inl ?_) ?_) EP_none (EP_some ES_int) EP_none ?_)) ?_)) (SSC_cons (S1C_of (S_set 2 ?_ (.inr ?_) (ES_lst (ESs_cons ES_int (ESs_cons ES_int (ESs_cons ES_int (ESs_cons ES_int (ESs_cons ES_int (ESs_cons ES_int ESs_nil (sEc ?_ _)) (sEc ?_ _)) (sEc ?_ _)) (sEc ?_ _)) (sEc ?_ _)) (sEc ?_ _))) ?_)) (SSC_cons (S1C_of (S_comp 4 ?_ (?_ : Blk _ _ _ (Str.ofString "k") [none, some 2, some 1]) (IS_range 37 bn_range ?_ ES_int ?_) TS_nil (ES_bin (ES_sub (ES_var 3 ?_ (.inr (.inl ?_)) ?_) (ES_var 1 ?_ (.inl ?_) ?_) ?_) (ES_callB 2 bn_sum ?_ (ESs_cons (ES_fz (NS_slice (ES_var 4 ?_ (.inr (.inl ?_)) ?_) (EP_some (ES_var 1 ?_ (.inl ?_) ?_)) EP_none (EP_some ES_int) ?_)) ESs_nil (sEc ?_ _)) ok_sum ?_ ?_) ok_add) ?_ ?_)) (SSC_cons (S1C_of (S_set 5 ?_ (.inl ?_) (ES_fz (NS_slice (ES_fz (NS_slice (ES_lst (ESs_cons ES_int (ESs_cons ES_int (ESs_cons ES_int (ESs_cons ES_int (ESs_cons ES_int (ESs_cons ES_int (ESs_cons ES_int (ESs_cons ES_int (ESs_cons ES_int (ESs_cons ES_int (ESs_cons ES_int (ESs_cons ES_int (ESs_cons ES_int (ESs_cons ES_int ESs_nil (sEc ?_ _)) (sEc ?_ _)) (sEc ?_ _)) (sEc ?_ _)) (sEc ?_ _)) (sEc ?_ _)) (sEc ?_ _)) (sEc ?_ _)) (sEc ?_ _)) (sEc ?_ _)) (sEc ?_ _)) (sEc ?_ _)) (sEc ?_ _)) (sEc ?_ _))) (EP_some (ES_bin (ES_sub (ES_var 4 ?_ (.inl ?_) ?_) ES_int ?_) ES_int ok_mod)) EP_none EP_none ?_)) EP_none (EP_some ES_int) EP_none ?_)) ?_)) (SSC_cons (S1C_of (S_set 6 ?_ (.inr ?_) ES_int ?_)) (SSC_cons (S1C_of (S_for (AT_name 7 ?_ (.inl ?_)) calm_put (ES_var 5 ?_ (.inl ?_) ?_) (SS_cons (S_aug 6 ?_ (.inr ?_) ?_ (ES_var 7 ?_ (.inl ?_) ?_) ok_imul) SS_nil) ?_ ?_)) (SSC_cons (S1C_of (S_set 8 ?_ (.inr ?_) (ES_bin (ES_var 6 ?_ (.inr (.inl ?_)) ?_) (ES_bin ES_int (ES_bin (ES_bin (ES_sub (ES_var 5 ?_ (.inl ?_) ?_) ES_int ?_) (ES_sub (ES_var 5 ?_ (.inl ?_) ?_) ES_int ?_) ok_mul) ES_int ok_pow) ok_mul) ok_fdiv) ?_)) (SSC_cons (S1C_of (S_set 9 ?_ (.inl ?_) (ES_bin (ES_bin (ES_bin (ES_sub (ES_var 4 ?_ (.inl ?_) ?_) ES_int ?_) (ES_bin (ES_bin ES_int (ES_var 8 ?_ (.inr (.inl ?_)) ?_) ok_mul) ES_int ok_sub) ok_mod) (ES_var 8 ?_ (.inr (.inl ?_)) ?_) ok_sub) ES_int ok_add) ?_)) (SSC_cons (S1C_of (S_tri 10 11 12 ?_ ?_ ?_ (NS_rng 38 37 bn_list bn_range ?_ ?_ ES_int ?_ ?_) (NS_lst ESs_nil) (ES_bin (ES_bin (ES_sub (ES_var 4 ?_ (.inl ?_) ?_) ES_int ?_) ES_int ok_fdiv) ES_int ok_mod) ?_ ?_ ?_)) (SSC_cons (S1C_of (S_forR 37 bn_range ?_ (AT_name 13 ?_ (.inl ?_)) (ES_bin (ES_sub (ES_var 4 ?_ (.inl ?_) ?_) ES_int ?_) ES_int ok_mod) (SS_cons (S_app (ES_var 11 ?_ (.inl ?_) ?_) (XE_pop (ES_var 10 ?_ (.inl ?_) ?_) (ES_bin (ES_var 12 ?_ (.inl ?_) ?_) (ES_callB 39 bn_len ?_ (ESs_cons (ES_var 10 ?_ (.inl ?_) ?_) ESs_nil (sEc ?_ _)) ok_len ?_ ?_) ok_mod) ?_ (MC_of ?_ fun zz => ?_) PySem.F.type_list_pop) ?_ (MC_of ?_ fun zz => ?_) ?_) (SS_cons (S_aug 6 ?_ (.inr ?_) ?_ (ES_sub (ES_var 5 ?_ (.inl ?_) ?_) (ES_sub (ES_var 11 ?_ (.inl ?_) ?_) (ES_un ES_int ok_neg) ?_) ?_) ok_ifdiv) (SS_cons (S_aug 12 ?_ (.inl ?_) ?_ (ES_bin ES_int (ES_var 13 ?_ (.inl ?_) ?_) ok_sub) ok_ifdiv) SS_nil))) ?_ ?_)) (SSC_cons (S1C_of (S_set 14 ?_ (.inl ?_) (ES_lst (ESs_cons ES_int (ESs_cons (ES_sub (ES_var 5 ?_ (.inl ?_) ?_) (ES_sub (ES_var 10 ?_ (.inl ?_) ?_) (ES_un ES_int ok_neg) ?_) ?_) (ESs_cons (ES_bin (ES_sub (ES_var 5 ?_ (.inl ?_) ?_) (ES_sub (ES_var 10 ?_ (.inl ?_) ?_) (ES_un ES_int ok_neg) ?_) ?_) (ES_sub (ES_var 5 ?_ (.inl ?_) ?_) (ES_sub (ES_var 10 ?_ (.inl ?_) ?_) (ES_un ES_int ok_neg) ?_) ?_) ok_mul) ESs_nil (sEc ?_ _)) (sEc ?_ _)) (sEc ?_ _))) ?_)) (SSC_cons (S1C_of (S_set 15 ?_ (.inl ?_) (ES_bin (ES_callB 39 bn_len ?_ (ESs_cons (ES_fz (NS_comp (?_ : Blk _ _ _ (Str.ofString "most") [some 8, some 6]) (IS_list (ES_var 14 ?_ (.inl ?_) ?_)) (TS_one (CT_cmp (ES_bin (ES_bin (ES_bin ES_int (ES_var 1 ?_ (.inl ?_) ?_) ok_mul) (ES_var 1 ?_ (.inl ?_) ?_) ok_mul) (ES_var 2 ?_ (.inr (.inl ?_)) ?_) ok_mul) (ES_var 3 ?_ (.inr (.inl ?_)) ?_) ok_le ?_)) (ES_var 1 ?_ (.inl ?_) ?_) ?_)) ESs_nil (sEc ?_ _)) ok_len ?_ ?_) ES_int ok_sub) ?_)) (SSC_cons (S1C_of (S_tri 16 17 12 ?_ ?_ ?_ (NS_cp 38 bn_list ?_ (ES_var 10 ?_ (.inl ?_) ?_) ?_) (NS_lst ESs_nil) (ES_bin (ES_bin (ES_sub (ES_var 4 ?_ (.inl ?_) ?_) ES_int ?_) ES_int ok_fdiv) ES_int ok_mod) ?_ ?_ ?_)) (SSC_cons (S1C_of (S_forR 37 bn_range ?_ (AT_name 13 ?_ (.inl ?_)) (ES_bin (ES_sub (ES_var 4 ?_ (.inl ?_) ?_) ES_int ?_) (ES_bin (ES_var 15 ?_ (.inl ?_) ?_) ES_int ok_add) ok_mod) (SS_cons (S_app (ES_var 17 ?_ (.inl ?_) ?_) (XE_pop (ES_var 16 ?_ (.inl ?_) ?_) (ES_bin (ES_var 12 ?_ (.inl ?_) ?_) (ES_callB 39 bn_len ?_ (ESs_cons (ES_var 16 ?_ (.inl ?_) ?_) ESs_nil (sEc ?_ _)) ok_len ?_ ?_) ok_mod) ?_ (MC_of ?_ fun zz => ?_) PySem.F.type_list_pop) ?_ (MC_of ?_ fun zz => ?_) ?_) (SS_cons (S_aug 12 ?_ (.inl ?_) ?_ (ES_bin (ES_callB 39 bn_len ?_ (ESs_cons (ES_var 16 ?_ (.inl ?_) ?_) ESs_nil (sEc ?_ _)) ok_len ?_ ?_) ES_int ok_add) ok_ifdiv) SS_nil)) ?_ ?_)) (SSC_cons (S1C_of (S_tri 18 19 20 ?_ ?_ ?_ (NS_lst ESs_nil) (NS_lst ESs_nil) (ES_bin (ES_sub (ES_var 4 ?_ (.inl ?_) ?_) ES_int ?_) ES_int ok_mod) ?_ ?_ ?_)) (SSC_cons (S1C_forR 37 bn_range ?_ (AT_name 21 ?_ (.inl ?_)) ES_int (SSC_cons (S1C_of (S_set 3 ?_ (.inl ?_) (ES_bin (ES_bin (ES_var 21 ?_ (.inl ?_) ?_) (ES_sub (ES_var 4 ?_ (.inl ?_) ?_) ES_int ?_) ok_add) ES_int ok_mod) ?_)) (SSC_cons (S1C_of (S_set 22 ?_ (.inl ?_) (ES_if (CT_cmp (ES_bin (ES_var 3 ?_ (.inl ?_) ?_) ES_int ok_mod) ES_int ok_eq ?_) ES_int (ES_un ES_int ok_neg)) ?_)) (SSC_cons (S1C_of (S_unp (Tgts.cons (i := 23) ?_ (.inl ?_) (Tgts.cons (i := 24) ?_ (.inl ?_) Tgts.nil)) (ES_callF 40 fk_int_divmod ?_ (ESs_cons (ES_bin (ES_var 22 ?_ (.inl ?_) ?_) (ES_var 9 ?_ (.inl ?_) ?_) ok_mul) (ESs_cons (ES_bin (ES_var 22 ?_ (.inl ?_) ?_) (ES_sub (ES_var 5 ?_ (.inl ?_) ?_) (ES_var 3 ?_ (.inl ?_) ?_) ?_) ok_mul) ESs_nil (sEc ?_ _)) (sEc ?_ _)) (ok_fn hd) ?_) ?_ ?_)) (SSC_cons (S1C_of (S_if (CT_cmpV (ES_lst (ESs_cons (ES_var 23 ?_ (.inl ?_) ?_) (ESs_cons (ES_bin (ES_var 22 ?_ (.inl ?_) ?_) (ES_var 24 ?_ (.inl ?_) ?_) ok_mul) ESs_nil (sEc ?_ _)) (sEc ?_ _))) (ES_lst (ESs_cons (ES_bin (ES_var 9 ?_ (.inl ?_) ?_) (ES_sub (ES_var 5 ?_ (.inl ?_) ?_) (ES_var 3 ?_ (.inl ?_) ?_) ?_) ok_fdiv) (ESs_cons (ES_bin (ES_var 9 ?_ (.inl ?_) ?_) (ES_sub (ES_var 5 ?_ (.inl ?_) ?_) (ES_var 3 ?_ (.inl ?_) ?_) ?_) ok_mod) ESs_nil (sEc ?_ _)) (sEc ?_ _))) (ok_neD (by lia)) ?_) (SS_cons (S_ret ES_bool) SS_nil) SS_nil)) (SSC_cons (S1C_of (S_aug 24 ?_ (.inl ?_) ?_ (ES_var 22 ?_ (.inl ?_) ?_) ok_imul)) (SSC_cons (S1C_of (S_if (CT_in (ES_var 3 ?_ (.inl ?_) ?_) (ES_var 17 ?_ (.inl ?_) ?_) ?_) (SS_cons (S_set 24 ?_ (.inl ?_) (ES_bin (ES_bin (ES_bin (ES_var 24 ?_ (.inl ?_) ?_) ES_int ok_add) (ES_bin (ES_var 20 ?_ (.inl ?_) ?_) (ES_bin (ES_sub (ES_var 5 ?_ (.inl ?_) ?_) (ES_var 3 ?_ (.inl ?_) ?_) ?_) ES_int ok_sub) ok_mod) ok_add) (ES_sub (ES_var 5 ?_ (.inl ?_) ?_) (ES_var 3 ?_ (.inl ?_) ?_) ?_) ok_mod) ?_) (SS_cons (S_aug 20 ?_ (.inl ?_) ?_ ES_int ok_ifdiv) SS_nil)) SS_nil)) (SSC_cons (S1C_of (S_set 25 ?_ (.inl ?_) (ES_sub ES_str (ES_bin (ES_bin (ES_bin (ES_sub (ES_var 4 ?_ (.inl ?_) ?_) ES_int ?_) ES_int ok_fdiv) (ES_var 3 ?_ (.inl ?_) ?_) ok_add) ES_int ok_mod) ?_) ?_)) (SSC_cons (S1C_of (S_set 26 ?_ (.inl ?_) (ES_bin (ES_bin (ES_bin (ES_bin (ES_var 25 ?_ (.inl ?_) ?_) (ES_sub (ES_lst (ESs_cons ES_str (ESs_cons ES_str ESs_nil (sEc ?_ _)) (sEc ?_ _))) (ES_bin (ES_var 3 ?_ (.inl ?_) ?_) ES_int ok_mod) ?_) ok_add) (ES_bin (ES_var 25 ?_ (.inl ?_) ?_) ES_int ok_mul) ok_add) (ES_callT 41 bn_str ?_ (ESs_cons (ES_bin (ES_bin (ES_var 24 ?_ (.inl ?_) ?_) ES_int ok_mul) (ES_sub (ES_var 5 ?_ (.inl ?_) ?_) (ES_var 3 ?_ (.inl ?_) ?_) ?_) ok_add) ESs_nil (sEc ?_ _)) ok_str ?_ ?_) ok_add) (ES_var 25 ?_ (.inl ?_) ?_) ok_add) ?_)) (SSC_cons (S1C_of (S_new 27 ?_ (.inl ?_) (NS_lst (ESs_cons (ES_bin (ES_bin ES_str (ES_var 26 ?_ (.inl ?_) ?_) ok_add) ES_str ok_add) (ESs_cons (ES_bin (ES_bin ES_str (ES_var 26 ?_ (.inl ?_) ?_) ok_add) ES_str ok_add) (ESs_cons (ES_bin ES_str (ES_var 26 ?_ (.inl ?_) ?_) ok_add) (ESs_cons (ES_bin (ES_bin ES_str (ES_var 26 ?_ (.inl ?_) ?_) ok_add) ES_str ok_add) (ESs_cons ES_str ESs_nil (sEc ?_ _)) (sEc ?_ _)) (sEc ?_ _)) (sEc ?_ _)) (sEc ?_ _))) ?_)) (SSC_cons (S1C_of (S_ext (ES_var 27 ?_ (.inl ?_) ?_) (NS_lst (ESs_cons (ES_bin (ES_bin (ES_bin ES_str (ES_var 25 ?_ (.inl ?_) ?_) ok_add) (ES_var 26 ?_ (.inl ?_) ?_) ok_add) ES_str ok_add) (ESs_cons (ES_bin (ES_bin ES_str (ES_var 26 ?_ (.inl ?_) ?_) ok_add) (ES_var 25 ?_ (.inl ?_) ?_) ok_add) (ESs_cons (ES_bin (ES_bin (ES_bin (ES_bin ES_str (ES_bin (ES_var 25 ?_ (.inl ?_) ?_) ES_int ok_mul) ok_add) ES_str ok_add) (ES_var 25 ?_ (.inl ?_) ?_) ok_add) ES_str ok_add) ESs_nil (sEc ?_ _)) (sEc ?_ _)) (sEc ?_ _))) ?_ (MC_of ?_ fun zz => ?_) PySem.F.type_list_extend ?_)) (SSC_cons (S1C_of (S_set 28 ?_ (.inl ?_) (ES_bin (ES_bin (ES_bin (ES_sub (ES_var 4 ?_ (.inl ?_) ?_) ES_int ?_) ES_int ok_fdiv) (ES_var 21 ?_ (.inl ?_) ?_) ok_add) ES_int ok_mod) ?_)) (SSC_cons (S1C_port 29 42 ?_ ?_ ?_ (ES_if (CT_in (ES_var 3 ?_ (.inl ?_) ?_) (ES_var 11 ?_ (.inl ?_) ?_) ?_) (ES_sub (ES_var 27 ?_ (.inl ?_) ?_) (ES_var 28 ?_ (.inl ?_) ?_) ?_) (ES_bin (ES_bin ES_str (ES_var 26 ?_ (.inl ?_) ?_) ok_add) ES_str ok_add)) ?_ ?_) (SSC_cons (S1C_of (S_if (CT_in (ES_var 3 ?_ (.inl ?_) ?_) (ES_var 11 ?_ (.inl ?_) ?_) ?_) (SS_cons (S_if (CT_cmpV (ES_var 29 ?_ (.inl ?_) ?_) (ES_lst (ESs_cons (ES_if (CT_cmp (ES_var 28 ?_ (.inl ?_) ?_) ES_int ok_eq ?_) ES_str (ES_if (CT_cmp (ES_var 28 ?_ (.inl ?_) ?_) ES_int ok_eq ?_) ES_str ES_str)) (ESs_cons (ES_sub (ES_var 27 ?_ (.inl ?_) ?_) (ES_var 28 ?_ (.inl ?_) ?_) ?_) ESs_nil (sEc ?_ _)) (sEc ?_ _))) (ok_neD (by lia)) ?_) (SS_cons (S_ret ES_bool) SS_nil) SS_nil) SS_nil) (SS_cons (S_if (CT_or (CT_cmpV (ES_var 29 ?_ (.inl ?_) ?_) (ES_tup (ESs_cons ES_str (ESs_cons (ES_bin (ES_bin (ES_var 24 ?_ (.inl ?_) ?_) ES_int ok_mul) (ES_sub (ES_var 5 ?_ (.inl ?_) ?_) (ES_var 3 ?_ (.inl ?_) ?_) ?_) ok_add) ESs_nil (sEc ?_ _)) (sEc ?_ _))) (ok_neD (by lia)) ?_) (CT_or (CT_not (CT_plain (ES_callB 43 bn_isinstance ?_ (ESs_cons (ES_sub (ES_var 29 ?_ (.inl ?_) ?_) ES_int ?_) (ESs_cons (ES_bn 44 bn_int ?_) ESs_nil (sEc ?_ _)) (sEc ?_ _)) ok_isInt ?_ ?_) ?_)) CT_or_nil)) (SS_cons (S_ret ES_bool) SS_nil) SS_nil) (SS_cons (S_unp (Tgts.cons (i := 30) ?_ (.inl ?_) (Tgts.cons (i := 7) ?_ (.inl ?_) Tgts.nil)) (ES_callF 40 fk_int_divmod ?_ (ESs_cons (ES_sub (ES_var 29 ?_ (.inl ?_) ?_) ES_int ?_) (ESs_cons ES_int ESs_nil (sEc ?_ _)) (sEc ?_ _)) (ok_fn hd) ?_) ?_ ?_) (SS_cons (S_insort (rl := 0) (c := 148) (P' := 146) (cn := Str.ofString "law") 45 hB ?_ (ESs_cons (ES_var 19 ?_ (.inl ?_) ?_) (ESs_cons (ES_lst (ESs_cons (ES_var 30 ?_ (.inl ?_) ?_) (ESs_cons (ES_var 7 ?_ (.inl ?_) ?_) ESs_nil (sEc ?_ _)) (sEc ?_ _))) ESs_nil (sEc ?_ _)) (sEc ?_ _)) ?_ ?_ ?_ ?_ ?_ (ES_sub (ES_var 0 ?_ (.inl ?_) ?_) ES_int ?_) ?_ ?_ ?_ ?_) (SS_cons (S_app (ES_var 18 ?_ (.inl ?_) ?_) (XE_of (ES_lst (ESs_cons (ES_var 24 ?_ (.inl ?_) ?_) (ESs_cons (ES_sub (ES_var 5 ?_ (.inl ?_) ?_) (ES_var 3 ?_ (.inl ?_) ?_) ?_) ESs_nil (sEc ?_ _)) (sEc ?_ _)))) ?_ (MC_of ?_ fun zz => ?_) ?_) SS_nil)))))) SSC_nil))))))))))))) ?_ ?_) (SSC_cons (S1C_of (S_if (CT_cmpV (ES_var 19 ?_ (.inl ?_) ?_) (ES_sortK (rl := 0) (c := 148) (P' := 146) (cn := Str.ofString "law") 46 (by lia) ?_ (ES_var 18 ?_ (.inl ?_) ?_) ?_ ?_ ?_ ?_ ?_ (ES_sub (ES_var 0 ?_ (.inl ?_) ?_) ES_int ?_) ?_ ?_ ?_) (ok_neD (by lia)) ?_) (SS_cons (S_ret ES_bool) SS_nil) SS_nil)) (SSC_cons (S1C_of (S_unp (Tgts.cons (i := 31) ?_ (.inl ?_) (Tgts.cons (i := 32) ?_ (.inl ?_) (Tgts.cons (i := 33) ?_ (.inl ?_) (Tgts.cons (i := 34) ?_ (.inl ?_) Tgts.nil)))) (ES_callF 47 fk_law_found ?_ (ESs_cons (ES_var 19 ?_ (.inl ?_) ?_) (ESs_cons (ES_var 8 ?_ (.inr (.inl ?_)) ?_) ESs_nil (sEc ?_ _)) (sEc ?_ _)) (ok_fn hfo) ?_) ?_ ?_)) (SSC_cons (S1C_of (S_if (CT_or (CT_cmp (ES_var 31 ?_ (.inl ?_) ?_) (ES_var 15 ?_ (.inl ?_) ?_) ok_ne ?_) (CT_or (CT_cmp (ES_var 32 ?_ (.inl ?_) ?_) ES_bool ok_isNot ?_) (CT_or (CT_cmpV (ES_callF 40 fk_int_divmod ?_ (ESs_cons (ES_var 33 ?_ (.inl ?_) ?_) (ESs_cons (ES_var 34 ?_ (.inl ?_) ?_) ESs_nil (sEc ?_ _)) (sEc ?_ _)) (ok_fn hd) ?_) (ES_tup (ESs_cons (ES_var 9 ?_ (.inl ?_) ?_) (ESs_cons ES_int ESs_nil (sEc ?_ _)) (sEc ?_ _))) (ok_neD (by lia)) ?_) CT_or_nil))) (SS_cons (S_ret ES_bool) SS_nil) SS_nil)) (SSC_cons (S1C_of (S_set 35 ?_ (.inl ?_) ES_int ?_)) (SSC_cons (S1C_of (S_for (AT_name 3 ?_ (.inl ?_)) calm_put (ES_var 17 ?_ (.inl ?_) ?_) (SS_cons (S_aug 35 ?_ (.inl ?_) ?_ (ES_sub (ES_var 5 ?_ (.inl ?_) ?_) (ES_var 3 ?_ (.inl ?_) ?_) ?_) ok_imul) SS_nil) ?_ ?_)) (SSC_cons (S1C_of (S_forR 37 bn_range ?_ (AT_name 3 ?_ (.inl ?_)) ES_int (SS_cons (S_unp (Tgts.cons (i := 23) ?_ (.inl ?_) (Tgts.cons (i := 36) ?_ (.inl ?_) Tgts.nil)) (ES_callF 40 fk_int_divmod ?_ (ESs_cons (ES_var 34 ?_ (.inl ?_) ?_) (ESs_cons (ES_sub (ES_var 5 ?_ (.inl ?_) ?_) (ES_var 3 ?_ (.inl ?_) ?_) ?_) ESs_nil (sEc ?_ _)) (sEc ?_ _)) (ok_fn hd) ?_) ?_ ?_) (SS_cons (S_if (CT_or (CT_cmp (ES_bin (ES_bin (ES_var 23 ?_ (.inl ?_) ?_) (ES_sub (ES_var 5 ?_ (.inl ?_) ?_) (ES_var 3 ?_ (.inl ?_) ?_) ?_) ok_mul) (ES_var 36 ?_ (.inl ?_) ?_) ok_add) (ES_var 34 ?_ (.inl ?_) ?_) ok_ne ?_) (CT_or (CT_not (CT_chain ES_int (ES_var 36 ?_ (.inl ?_) ?_) (ES_sub (ES_var 5 ?_ (.inl ?_) ?_) (ES_var 3 ?_ (.inl ?_) ?_) ?_) ok_le ok_lt ?_)) (CT_or (CT_cmp (ES_cmp (ES_var 36 ?_ (.inl ?_) ?_) ES_int ok_eq ?_) (ES_in (ES_var 3 ?_ (.inl ?_) ?_) (ES_var 17 ?_ (.inl ?_) ?_) ?_) ok_ne ?_) CT_or_nil))) (SS_cons (S_ret ES_bool) SS_nil) SS_nil) SS_nil)) ?_ ?_)) (SSC_cons (S1C_fin 49 ?_ ?_ (ES_cmp (ES_callB 48 bn_abs ?_ (ESs_cons (ES_var 34 ?_ (.inl ?_) ?_) ESs_nil (sEc ?_ _)) ok_abs ?_ ?_) (ES_var 35 ?_ (.inl ?_) ?_) ok_eq ?_) (ES_var 9 ?_ (.inl ?_) ?_) ?_ ?_) SSC_nil)))))))))))))))))))))))
   all_goals try first | exact rfl | exact ⟨rfl, rfl, by decide, by decide, by decide, rfl, by decide, rfl, by kernel_rfl⟩ | exact ⟨rfl, by decide, by decide, rfl, rfl, rfl, by kernel_rfl⟩ | decide | kernel_rfl | exact fun zz => rfl | exact fun zz zz => rfl | exact fun zz zz => ⟨_, rfl⟩ | exact fun zz zz zz zz zz zz zz => rfl | exact (fun env h => by cases env; cases h; rfl) | exact (fun Γ h => by obtain ⟨_, _, _, _, _, _, _⟩ := Γ; cases h; rfl)
 · exact (by exact takesK1 fun zz zz zz zz zz zz zz zz => BindsTo.of_eq rfl)
 · exact ⟨rfl, by decide, by decide, by decide, rfl, rfl, rfl, rfl, by kernel_rfl⟩
end Mine
end
section
open PySem PySem.W PySem.Calls PyProof.Rows
namespace Mine
theorem gn_law : Gn (Str.ofString "law") (.ref 149) := ⟨fun w => by kernel_rfl, by kernel_rfl⟩
theorem notabs (w : World) : ∀ t ∈ tb, (KF w).lookup t = none := by
 intro t ht
 simp only [tb, List.mem_cons, List.not_mem_nil, or_false] at ht
 rcases ht with rfl | rfl | rfl | rfl <;> kernel_rfl
theorem heads {w : World} {h : Heap} (X : (KF w).In h) : CodeAll tbs h :=
 ⟨codeHd_of_K (c := 143) (P := 141) X (by kernel_rfl), codeHd_of_K (c := 41) (P := 37) X (by kernel_rfl), codeHd_of_K (c := 34) (P := 30) X (by kernel_rfl), codeHd_of_K (c := 148) (P := 146) X (by kernel_rfl), trivial⟩
theorem ints_PVs {ok : Addr → Prop} {h : Heap} {ys : List Value} {xs : List Int} (H : IntsAre ys xs) : PVs ok h (xs.map .int) ys := by
 induction H with
 | nil => rfl
 | cons n t h ih => exact ⟨_, _, rfl, ⟨t, rfl⟩, ih⟩
structure Entry (w : World) (h : Heap) (mg mb : Str → Option Value) : Prop where
 X : (KF w).In h
 t : ∀ P ∈ [141, 37, 30, 146], h.get? P = some (tabObj #[])
 g : h.Ns mainGlobals mg
 b : h.Ns builtinsNs mb
 nl : h.NoLimit
 nd : ∃ mc, h.Ns cStatics mc ∧ mc "sys.int_max_str_digits" = none
 bl : ∀ x : Str, x ≠ "__name__" → mb x = bootBuiltins x
 bm : ∃ bm ob, mg "__builtins__" = some (.ref bm) ∧ bm ≠ builtinsNs ∧ h.get? bm = some ob ∧ ob.cls = .type "module" ∧ ob.dict = some builtinsNs ∧ ob.data = .plain
section
variable {w : World} {h : Heap} {mg mb : Str → Option Value}
theorem Entry.tabs (x : Entry w h mg mb) : TabsOk h := fun q hq => by
 have : q.1 ∈ [141, 37, 30, 146] := by
   simp only [tq, List.mem_cons, List.not_mem_nil, or_false] at hq
   rcases hq with rfl | rfl | rfl | rfl <;> decide
 exact ⟨#[], x.t q.1 this, trivial, fun pos cv hc => by cases hc⟩
noncomputable def baseG (w : World) (h : Heap) (mg mb : Str → Option Value) : Gd := ⟨w, mg, mb, hideAll h tb, Ky.no⟩
theorem Entry.ok (x : Entry w h mg mb) : (baseG w h mg mb).Ok := by
 have T := x.tabs
 have hid : ∀ {b o}, h.get? b = some o → (∀ vs, o.data ≠ .fields vs) → (hideAll h tb).get? b = some o := fun {b o} e hd => hideAll_get _ e fun q => let ⟨vs, z⟩ := tab_data T q e; hd vs z
 have ns : ∀ {L m}, h.Ns L m → (hideAll h tb).Ns L m := fun {L m} ⟨o, es, ep, e, hd, r⟩ => ⟨o, es, ep, hid e (by rw [hd]; nofun), hd, r⟩
 have X' : (KF w).In (hideAll h tb) := fun p o e => hideAll_get _ (x.X p o e) fun q => by rw [notabs w p q] at e; cases e
 obtain ⟨mc, n1, n2⟩ := x.nl
 obtain ⟨md, d1, d2⟩ := x.nd
 obtain ⟨bm, ob, b1, b2, b3, b4, b5, b6⟩ := x.bm
 exact ⟨X', ns x.g, ns x.b, x.bl, ⟨mc, ns n1, n2⟩, ⟨md, ns d1, d2⟩, ⟨bm, ob, b1, b2, hid b3 (by rw [b6]; nofun), b4, b5, b6⟩, heads X', fun t ht => hideAll_none _ ht, (by intro s A ps ys r Q _ _ _ h; cases h), (by intro s A ps ys xs us n xs' Q h; cases h), fun h => by rcases h with ⟨ps, r, h⟩ | h <;> cases h⟩
theorem Entry.at_ (x : Entry w h mg mb) : (baseG w h mg mb).at h := ⟨fun b o e => of_hideAll _ e, x.tabs⟩
end
noncomputable def LawTrue (xs : List Int) : Prop := ∃ rm opD opF0 opB, 7 ≤ rm ∧ rm ≤ 60 ∧ Fn (rm + 2) 56 opD ∧ Fn (rm + 2) 144 opF0 ∧ FnKw (rm + 1) 74 opB ∧ W_law rm opD opF0 opB (St.of [.lst (xs.map .int)] 49) (fun fl σ => fl = .ret (.p (.bool true)))
theorem law_run {w : World} {s : Shared} {mg mb : Str → Option Value} {fa l : Addr} {ys : List Value} {xs : List Int} {Q E : Value → Shared → Prop} (x : Entry w s.heap mg mb) (hmg : mg (Str.ofString "law") = some (.ref fa)) (hl : s.heap.IsList l ys.toArray) (hi : IntsAre ys xs) (hW : LawTrue xs)
   (hQ : ∀ h' tk, Old tb s.heap h' → TabsOk h' → Q (.bool true) { s with heap := h', toks := tk }) : wpC (model PG w) callerA (PySem.call (.ref fa) [.ref l]) Q E s := by
 obtain ⟨rm, opD, opF0, opB, h7, h60, hd, hf, hB, hW⟩ := hW
 have hfa : fa = 149 := by
   have := mg_of x.X x.g (gn_law.k w)
   rw [hmg] at this; cases this; rfl
 subst hfa
 obtain ⟨qual, params, body, cs, dV, kV, B, S, T, C⟩ := d_law (rm := rm) h7 hd hf hB
 obtain ⟨oc, od, osl, name, doc, pm, an, ct, hf, hcd⟩ := B.o w
 have hpv : PVs (fun zz => True) s.heap [.lst (xs.map .int)] [.ref l] := ⟨_, _, rfl, ⟨l, ys, rfl, trivial, hl, ints_PVs hi⟩, rfl⟩
 refine wpC_call (codeC_call_function (fd := fnX name qual params body cs [] dV kV doc pm an (.ref 148) ct) (body := body) (by decide +kernel) (x.X _ _ hf) rfl C.co C.gen rfl (codeRec_of x.X hcd) (T name doc pm an (.ref 148) ct s [.ref l] rfl _ _ _ _ ?_))
 refine wpAny_newFunctionEnv_cells C.k (hkind_of C) fun env he s' y => ?_
 subst he
 refine ⟨x.nl.keeps y.toInCall.keep, codeC_func ?_⟩
 obtain ⟨hΓ, R⟩ := start_cells (G := baseG w s.heap mg mb) (f := 149) (cdv := .ref 148) (qual := qual) C (fun c' q e => by cases e; exact ⟨rfl, rfl⟩) rfl rfl x.at_ hpv rfl y
 have hm' : RmG (rm + 2) (cellFi qual cs s.heap.objs.size 149 (.ref 148)) (callerA.deeper (cellFi qual cs s.heap.objs.size 149 (.ref 148)).env) := ⟨⟨rfl, by show 1 + claimMargin + 1 + (rm + 2) < recursionLimit; dsimp only [claimMargin, recursionLimit]; lia, by show 4 + 3 + 10 * (rm + 2) < cLine; dsimp only [cLine]; lia⟩, fun zz => ⟨rfl, rfl⟩⟩
 refine wpC_mono (S (baseG w s.heap mg mb) _ [] s _ [] s' _ _ (fun fl s' => Q (retOf fl) s') x.ok hΓ rfl hW R hm' fun fl σ' ow' s' fw hPo R' g hf => ?_) (fun fl zz h => by cases fl <;> exact h) fun zz zz h => h.elim
 subst hPo
 obtain ⟨z, rfl, vz⟩ := hf
 cases vz
 have o' : Old tb s.heap s'.heap := R'.old
 have t' := R'.ok.tabs
 obtain ⟨h', tk, rfl⟩ := R'.sh
 exact hQ h' tk o' t'
theorem old_K {w : World} {h h' : Heap} {mg mb : Str → Option Value} (x : Entry w h mg mb) (o : Old tb h h') (t : TabsOk h') : OldK h h' := by
 have H := heads x.X
 have tabOf : ∀ b ∈ tb, ∃ c, (c, b) ∈ tbs := fun b hb => by
   simp only [tb, List.mem_cons, List.not_mem_nil, or_false] at hb
   rcases hb with rfl | rfl | rfl | rfl
   · exact ⟨143, by decide⟩
   · exact ⟨41, by decide⟩
   · exact ⟨34, by decide⟩
   · exact ⟨148, by decide⟩
 have tabQ : ∀ b ∈ tb, ∃ q, (b, q) ∈ tq := fun b hb => by
   simp only [tb, List.mem_cons, List.not_mem_nil, or_false] at hb
   rcases hb with rfl | rfl | rfl | rfl
   · exact ⟨_, .head _⟩
   · exact ⟨_, .tail _ (.head _)⟩
   · exact ⟨_, .tail _ (.tail _ (.head _))⟩
   · exact ⟨_, .tail _ (.tail _ (.tail _ (.head _)))⟩
 refine ⟨fun b ob e => ?_, fun b ob e => ?_⟩
 · by_cases hb : b ∈ tb
   · obtain ⟨c, hc⟩ := tabOf b hb
     obtain ⟨q, hq⟩ := tabQ b hb
     have e0 := x.t b hb
     rw [e] at e0; obtain rfl := sij e0
     obtain ⟨ps, e1, _⟩ := t _ hq
     exact .inr (.inl ⟨((code_at H hc).tab e).isCodeTable, rfl, #[], ps, rfl, by rw [e1]; simp [tabObj]⟩)
   · exact .inl (o b ob hb e)
 · by_cases hb : b ∈ tb
   · obtain ⟨q, hq⟩ := tabQ b hb
     obtain ⟨ps, e1, _⟩ := t _ hq
     exact ⟨_, e1⟩
   · exact ⟨ob, o b ob hb e⟩
theorem law_top (hL : ∀ xs : List Int, xs.length ≤ 63 → LawTrue xs) : PySem.Challenge.rw_ta0026_01.Holds := holds_law hd_said fun zz => hd (by
 intro w s₀ s₁ mg mb G Y fa o pm cd doc dV kV ho hd' hcd hD hmg hg args vals as hpre hlay hrd hwl hlo
 have KX := km_in_of Y
 have hT8 := km_tabs_of Y
 refine Ground.open G ?_
 intro T B D TE TW
 have x : Entry w s₁.heap mg mb := ⟨KX, hT8, T.g, T.b, T.nolimit, T.nodigits, T.builtins, T.bmain⟩
 clear ho hd' hcd hD B D TE TW Y KX hT8 T
 wrow_args hpre hlay hrd hwl hlo
 rename_i xs _ _ _ _ _ _ _ l ys _ hl _ _ _ hi _ hlen _
 refine law_run x hmg hl hi (hL xs (by lia)) fun h' tk o' t' => ?_
 refine ⟨.inl ⟨_, .bool true, [], rfl, fun zz => rfl, .bool _, by wrow_post, fun zz => ⟨List.nodup_nil, fun a ha => by cases ha⟩⟩, old_K x o' t', rfl, ?_⟩
 exact .of_eq hg)
theorem lift2_of {op : P → P → Option P} {f g : St → Option V} {σ : St} {a b r : P} (hf : f σ = some (.p a)) (hg : g σ = some (.p b)) (hr : op a b = some r) : lift2 op f g σ = some (.p r) := by
 unfold lift2; rw [hf, hg]; simp only [hr, Option.map_some]
theorem lift1_of {op : P → Option P} {f : St → Option V} {σ : St} {a r : P} (hf : f σ = some (.p a)) (hr : op a = some r) : lift1 op f σ = some (.p r) := by
 unfold lift1; rw [hf]; simp only [hr, Option.map_some]
theorem cB_of {f : St → Option V} {σ : St} {b : Bool} (hf : f σ = some (.p (.bool b))) : cB f σ = some b := by
 unfold cB; rw [hf]
theorem cCons_of {f : St → Option V} {fs : St → Option (List V)} {σ : St} {v : V} {vs : List V} (hf : f σ = some v) (hs : fs σ = some vs) : cCons f fs σ = some (v :: vs) := by
 unfold cCons; rw [hf, hs]
theorem cApp_of {op : St → List V → Option P} {fs : St → Option (List V)} {σ : St} {vs : List V} {r : P} (hs : fs σ = some vs) (hr : op σ vs = some r) : cApp op fs σ = some (.p r) := by
 unfold cApp; rw [hs]; simp only [Option.bind_some, hr, Option.map_some]
theorem opF_of {op : List P → Option P} {σ : St} {vs : List V} {ps : List P} {r : P} (h : toPs σ vs = some ps) (hr : op ps = some r) : opF op σ vs = some r := by
 unfold opF; rw [h]; exact hr
theorem cTup_of {fs : St → Option (List V)} {σ : St} {vs : List V} {xs : List P} (hs : fs σ = some vs) (h : allP vs = some xs) (hl : xs.length ≤ 1000) : cTup fs σ = some (.p (.tup xs)) := by
 unfold cTup; rw [hs]; simp only [Option.bind_some, h]; exact if_pos hl
theorem cLst_of {fs : St → Option (List V)} {σ : St} {vs : List V} {xs : List P} (hs : fs σ = some vs) (h : allP vs = some xs) (hl : xs.length ≤ 1000) : cLst fs σ = some (.p (.lst xs)) := by
 unfold cLst; rw [hs]; simp only [Option.bind_some, h]; exact if_pos hl
theorem cSub_of {f g : St → Option V} {σ : St} {v : V} {k : Int} {r : P} (hf : f σ = some v) (hg : g σ = some (.p (.int k))) (hk : -(2 ^ 63) ≤ k ∧ k < 2 ^ 63) (hr : subV σ v k = some r) : cSub f g σ = some (.p r) := by
 unfold cSub; rw [hf, hg]; simp only [if_pos hk, hr, Option.map_some]
theorem cIf_t {c : St → Option Bool} {f g : St → Option V} {σ : St} {v : V} (hc : c σ = some true) (hf : f σ = some v) : cIf c f g σ = some v := by
 unfold cIf; rw [hc]; exact hf
theorem cIf_f {c : St → Option Bool} {f g : St → Option V} {σ : St} {v : V} (hc : c σ = some false) (hg : g σ = some v) : cIf c f g σ = some v := by
 unfold cIf; rw [hc]; exact hg
noncomputable def ii {α : Type} (c : Int → Int → Option α) : List P → Option α
 | [.int a, .int b] => c a b
 | _ => none
theorem ii_inv {α : Type} {c : Int → Int → Option α} {ps : List P} {r : α} (h : ii c ps = some r) : ∃ a b, ps = [.int a, .int b] ∧ c a b = some r :=
 eC (F := fun o => ii c o) (o := ps) h zr fun x1 l2 e3 h => eI (F := fun o => ii c (o :: l2)) (o := x1) h zr zn zn zn zn zn fun a e4 h => eC (F := fun o => ii c ((P.int a) :: o)) (o := l2) h zr fun x5 l6 e7 h => eI (F := fun o => ii c ((P.int a) :: (o :: l6))) (o := x5) h zr zn zn zn zn zn fun b e8 h => eN (F := fun o => ii c ((P.int a) :: ((P.int b) :: o))) (o := l6) h zm fun e9 h => ⟨a, b, e3.trans (congr (congrArg List.cons (e4)) (e7.trans (congr (congrArg List.cons (e8)) (e9)))), h⟩
noncomputable def li {α : Type} (c : List P → Int → Option α) : List P → Option α
 | [.lst a, .int b] => c a b
 | _ => none
theorem li_inv {α : Type} {c : List P → Int → Option α} {ps : List P} {r : α} (h : li c ps = some r) : ∃ a b, ps = [.lst a, .int b] ∧ c a b = some r :=
 eC (F := fun o => li c o) (o := ps) h zr fun x1 l2 e3 h => eL (F := fun o => li c (o :: l2)) (o := x1) h zr zn zn zn zn zn fun a e4 h => eC (F := fun o => li c ((P.lst a) :: o)) (o := l2) h zr fun x5 l6 e7 h => eI (F := fun o => li c ((P.lst a) :: (o :: l6))) (o := x5) h zr zn zn zn zn zn fun b e8 h => eN (F := fun o => li c ((P.lst a) :: ((P.int b) :: o))) (o := l6) h zm fun e9 h => ⟨a, b, e3.trans (congr (congrArg List.cons (e4)) (e7.trans (congr (congrArg List.cons (e8)) (e9)))), h⟩
noncomputable def opV : List P → Option P
 | [.int a, .int b, .int n] => if b ≠ 0 ∧ b.natAbs < 2 ^ 64 ∧ a.natAbs < 2 ^ 200 ∧ 0 ≤ n then some (.tup [.int (a.fdiv b), .int (a.fmod b)]) else none
 | _ => none
theorem opV_inv {ps : List P} {r : P} (h : opV ps = some r) : ∃ a b n, ps = [.int a, .int b, .int n] :=
 eC (F := fun o => opV o) (o := ps) h zr fun x1 l2 e3 h => eI (F := fun o => opV (o :: l2)) (o := x1) h zr zn zn zn zn zn fun a e4 h => eC (F := fun o => opV ((P.int a) :: o)) (o := l2) h zr fun x5 l6 e7 h => eI (F := fun o => opV ((P.int a) :: (o :: l6))) (o := x5) h zr zn zn zn zn zn fun b e8 h => eC (F := fun o => opV ((P.int a) :: ((P.int b) :: o))) (o := l6) h zr fun x9 l10 e11 h => eI (F := fun o => opV ((P.int a) :: ((P.int b) :: (o :: l10)))) (o := x9) h zr zn zn zn zn zn fun n e12 h => eN (F := fun o => opV ((P.int a) :: ((P.int b) :: ((P.int n) :: o)))) (o := l10) h zm fun e13 h => ⟨a, b, n, e3.trans (congr (congrArg List.cons (e4)) (e7.trans (congr (congrArg List.cons (e8)) (e11.trans (congr (congrArg List.cons (e12)) (e13))))))⟩
theorem fn_V {rm : Nat} : Fn (rm + 1) 21 opV := fn_of_d (rm := rm) d_div2n1n fun xs r h => by
 obtain ⟨a, b, n, rfl⟩ := opV_inv h
 obtain ⟨hc, h⟩ := ifS h
 ·
   ·
     obtain rfl := sij h
     refine ⟨rfl, true, ?_, ?_⟩
     · show some (decide (((Builtin.Int.intBits a : Nat) : Int) - n ≤ 4000)) = some true
       have := intBits_le_iff.mpr hc.2.2.1
       rw [decide_eq_true (by lia)]
     · refine ⟨.p (.tup [.int (a.fdiv b), .int (a.fmod b)]), ?_, rfl⟩
       show ((divmodA ⟨[], [], Ky.no⟩ [.p (.int a), .p (.int b)])).map V.p = _
       rw [show divmodA ⟨[], [], Ky.no⟩ [.p (.int a), .p (.int b)] = some (.tup [.int (a.fdiv b), .int (a.fmod b)]) from if_pos ⟨hc.1, hc.2.1⟩]
       rfl
noncomputable def digs (n : Nat) : Nat → Int → List Int
 | 0, _ => []
 | m + 1, x => x % 2 ^ n :: digs n m (x / 2 ^ n)
theorem digs_len {n : Nat} : ∀ {m : Nat} {x : Int}, (digs n m x).length = m
 | 0, _ => rfl
 | m + 1, x => congrArg (· + 1) digs_len
theorem pow_pos2 (k : Nat) : (0 : Int) < 2 ^ k := Int.pow_pos (by decide)
theorem digs_add {n : Nat} : ∀ (a b : Nat) (x : Int), digs n (a + b) x = digs n a x ++ digs n b (x / 2 ^ (n * a))
 | 0, b, x => by simp [digs]
 | a + 1, b, x => by
   rw [show a + 1 + b = (a + b) + 1 by lia]
   simp only [digs, List.cons_append]
   rw [digs_add a b, show n * (a + 1) = n + n * a by rw [Nat.mul_add]; lia, Int.pow_add, Int.ediv_ediv_of_nonneg (Int.le_of_lt (pow_pos2 n))]
theorem digs_mod {n : Nat} : ∀ (a : Nat) (x : Int), digs n a (x % 2 ^ (n * a)) = digs n a x
 | 0, x => rfl
 | a + 1, x => by
   simp only [digs]
   have e : (2 : Int) ^ (n * (a + 1)) = 2 ^ n * 2 ^ (n * a) := by rw [← Int.pow_add]; congr 1; rw [Nat.mul_add]; lia
   have h1 : x % 2 ^ (n * (a + 1)) % 2 ^ n = x % 2 ^ n := Int.emod_emod_of_dvd x ⟨2 ^ (n * a), e⟩
   have h2 : x % 2 ^ (n * (a + 1)) / 2 ^ n = x / 2 ^ n % 2 ^ (n * a) := by
     rw [e]
     have hp := pow_pos2 n
     have k1 := Int.emod_def x (2 ^ n * 2 ^ (n * a))
     rw [k1, Int.emod_def, ← Int.ediv_ediv_of_nonneg (Int.le_of_lt hp)]
     rw [show x - 2 ^ n * 2 ^ (n * a) * (x / 2 ^ n / 2 ^ (n * a)) = x + 2 ^ n * -(2 ^ (n * a) * (x / 2 ^ n / 2 ^ (n * a))) by grind, Int.add_mul_ediv_left _ _ (Int.ne_of_gt hp)]
     lia
   rw [h1, h2, digs_mod a]
noncomputable def val (n : Nat) : List Int → Int
 | [] => 0
 | d :: ds => d + 2 ^ n * val n ds
theorem val_app {n : Nat} : ∀ (a b : List Int), val n (a ++ b) = val n a + 2 ^ (n * a.length) * val n b
 | [], b => by simp [val]
 | d :: ds, b => by
   simp only [List.cons_append, val, val_app ds b, List.length_cons]
   have e : (2 : Int) ^ (n * (ds.length + 1)) = 2 ^ n * 2 ^ (n * ds.length) := by rw [← Int.pow_add]; congr 1; rw [Nat.mul_add]; lia
   rw [e]; grind
theorem intsP_map : ∀ {xs : List P} {ns : List Int}, intsP xs = some ns → xs = ns.map .int
 | [], _, e => by obtain rfl := sij e; rfl
 | .int a :: r, _, e => by
   simp only [intsP] at e
   obtain ⟨ms, h, rfl⟩ := Option.map_eq_some_iff.mp e
   rw [List.map_cons, ← intsP_map h]
 | .none :: _, _, e => by cases e
 | .bool _ :: _, _, e => by cases e
 | .str _ :: _, _, e => by cases e
 | .tup _ :: _, _, e => by cases e
 | .lst _ :: _, _, e => by cases e
 | .raw _ :: _, _, e => by cases e
theorem intsP_ints : ∀ {ns : List Int}, intsP (ns.map .int) = some ns
 | [] => rfl
 | n :: ns => by simp only [List.map_cons, intsP, intsP_ints, Option.map_some]
theorem noLsts_ints : ∀ {ns : List Int}, noLsts (ns.map .int) = true
 | [] => rfl
 | n :: ns => by simp only [List.map_cons, noLsts, noLst, noLsts_ints, Bool.and_self]
theorem bitXor_low {x : Int} (hx : 0 ≤ x) (s : Nat) : Builtin.bitXor x (x / 2 ^ s * 2 ^ s) = x % 2 ^ s := by
 have hy : 0 ≤ x / 2 ^ s * 2 ^ s := Int.mul_nonneg (Int.ediv_nonneg hx (Int.le_of_lt (pow_pos2 s))) (Int.le_of_lt (pow_pos2 s))
 obtain ⟨n, rfl⟩ := Int.eq_ofNat_of_zero_le hx
 have e : ((n : Int) / 2 ^ s * 2 ^ s) = ((n / 2 ^ s * 2 ^ s : Nat) : Int) := by simp
 have ha : Builtin.bitAnd (n : Int) ((n : Int) / 2 ^ s * 2 ^ s) = (n : Int) / 2 ^ s * 2 ^ s := by
   rw [e]
   unfold Builtin.bitAnd
   have h1 : decide ((0 : Int) ≤ (n : Int)) = true := decide_eq_true hx
   have h2 : decide ((0 : Int) ≤ ((n / 2 ^ s * 2 ^ s : Nat) : Int)) = true := decide_eq_true (by assumption)
   rw [h1, h2]
   simp only [Int.toNat_natCast]
   congr 1
   apply Nat.eq_of_testBit_eq
   intro i
   rw [Nat.testBit_and, ← Nat.shiftRight_eq_div_pow, ← Nat.shiftLeft_eq, Nat.testBit_shiftLeft, Nat.testBit_shiftRight]
   by_cases h : s ≤ i
   · rw [show s + (i - s) = i by lia]; simp [h]
   · simp [h]
 rw [bitXor_and, ha]
 have := Int.emod_add_mul_ediv (n : Int) (2 ^ s)
 have h3 : (2 : Int) ^ s * ((n : Int) / 2 ^ s) = (n : Int) / 2 ^ s * 2 ^ s := Int.mul_comm ..
 lia
noncomputable def kamS (n : Int) (k : Nat) : List P → List P → Option (List P)
 | [.int x, .int L, .int R], xs => (match intsP xs with
   | some ns => if 1 ≤ n ∧ n ≤ 64 ∧ 0 ≤ x ∧ x < 2 ^ 64 ∧ 0 ≤ L ∧ L < R ∧ R ≤ ns.length ∧ R - L ≤ 2 ^ k ∧ n * ns.length ≤ 200 ∧ x < 2 ^ (n.toNat * (R - L).toNat) then some ((ns.take L.toNat ++ digs n.toNat (R - L).toNat x ++ ns.drop R.toNat).map .int) else none
   | none => none)
 | _, _ => none
noncomputable def kamI (n : Int) : Nat → List P → List P → Option (List P)
 | 0, _, _ => none
 | k + 1, ps, xs => kamS n k ps xs
theorem kamS_of {n : Int} {k : Nat} {x L R : Int} {ns : List Int} (h : 1 ≤ n ∧ n ≤ 64 ∧ 0 ≤ x ∧ x < 2 ^ 64 ∧ 0 ≤ L ∧ L < R ∧ R ≤ ns.length ∧ R - L ≤ 2 ^ k ∧ n * ns.length ≤ 200 ∧ x < 2 ^ (n.toNat * (R - L).toNat)) :
   kamI n (k + 1) [.int x, .int L, .int R] (ns.map .int) = some ((ns.take L.toNat ++ digs n.toNat (R - L).toNat x ++ ns.drop R.toNat).map .int) := by
 show (match intsP (ns.map .int) with
   | some ns => if 1 ≤ n ∧ n ≤ 64 ∧ 0 ≤ x ∧ x < 2 ^ 64 ∧ 0 ≤ L ∧ L < R ∧ R ≤ ns.length ∧ R - L ≤ 2 ^ k ∧ n * ns.length ≤ 200 ∧ x < 2 ^ (n.toNat * (R - L).toNat) then some ((ns.take L.toNat ++ digs n.toNat (R - L).toNat x ++ ns.drop R.toNat).map P.int) else none
   | none => none) = _
 rw [intsP_ints]
 exact if_pos h
theorem kamS_inv {n : Int} {k : Nat} {xs : List P} {ps : List P} {r : List P} (h : kamS n k ps xs = some r) : ∃ x L R, ps = [.int x, .int L, .int R] :=
 eC (F := fun o => kamS n k o xs) (o := ps) h zr fun x1 l2 e3 h => eI (F := fun o => kamS n k (o :: l2) xs) (o := x1) h zr zn zn zn zn zn fun x e4 h => eC (F := fun o => kamS n k ((P.int x) :: o) xs) (o := l2) h zr fun x5 l6 e7 h => eI (F := fun o => kamS n k ((P.int x) :: (o :: l6)) xs) (o := x5) h zr zn zn zn zn zn fun L e8 h => eC (F := fun o => kamS n k ((P.int x) :: ((P.int L) :: o)) xs) (o := l6) h zr fun x9 l10 e11 h => eI (F := fun o => kamS n k ((P.int x) :: ((P.int L) :: (o :: l10))) xs) (o := x9) h zr zn zn zn zn zn fun R e12 h => eN (F := fun o => kamS n k ((P.int x) :: ((P.int L) :: ((P.int R) :: o))) xs) (o := l10) h zm fun e13 h => ⟨x, L, R, e3.trans (congr (congrArg List.cons (e4)) (e7.trans (congr (congrArg List.cons (e8)) (e11.trans (congr (congrArg List.cons (e12)) (e13))))))⟩
theorem kamI_ok (n : Int) (F lst : Addr) (k : Nat) (ps xs xs' : List P) (h : kamI n (k + 1) ps xs = some xs') : ps.length = 3 ∧ noLsts xs' = true ∧ W_i2d k ⟨ps.map (fun x => some (.p x)) ++ [none, none, none, none, some (.own 0), some (.p (.raw (.ref F))), some (.p (.int n))], [xs], ⟨F, k, fun zz => none, true, lst, kamI n k⟩⟩ (fun fl σ => Outs .none fl σ ∧ σ.own[0]? = some xs') := by
 have h : kamS n k ps xs = some xs' := h
 obtain ⟨x, L, R, rfl⟩ := kamS_inv h
 ·
   dsimp only [kamS] at h
   split at h
   · rename_i ns hns
     split at h
     · rename_i hc
       obtain ⟨hn1, hn2, hx0, hx64, hL0, hLR, hRl, hRk, hnl, hxb⟩ := hc
       obtain rfl := sij h
       obtain rfl := intsP_map hns
       refine ⟨rfl, noLsts_ints, ?_⟩
       have hlen : ns.length ≤ 200 := by
         have h1 : (1 : Int) * ns.length ≤ n * ns.length := imr hn1 (by exact r6)
         lia
       by_cases hb : L + 1 = R
       · refine ⟨true, ?_, ?_⟩
         · show some (L + 1 == R) = some true
           rw [hb]; simp
         · refine ⟨0, ns.map .int, L, .int x, rfl, rfl, rfl, rfl, hL0, by simp; exact q2 ‹_› ‹_›, by simp; exact n9 ‹_› (by decide), .p .none, rfl, rfl, ?_⟩
           have e1 : (R - L).toNat = 1 := by lia
           have e2 : R.toNat = L.toNat + 1 := by lia
           have e3 : x % 2 ^ n.toNat = x := Int.emod_eq_of_lt hx0 (by rw [e1, Nat.mul_one] at hxb; exact hxb)
           show some ((ns.map P.int).set L.toNat (.int x)) = some _
           rw [e1, e2]
           simp only [digs, e3]
           have hl : L.toNat < ns.length := by lia
           rw [← List.map_set, List.set_eq_take_append_cons_drop, if_pos hl]
           simp
       ·
         have h2 : L + 2 ≤ R := by lia
         obtain ⟨M, hM⟩ : ∃ M, Nonempty (PLift (M = (L + R) / 2)) := ⟨_, ⟨⟨rfl⟩⟩⟩
         have hMb : 2 * M ≤ L + R ∧ L + R < 2 * M + 2 := by obtain ⟨⟨e⟩⟩ := hM; lia
         have hM1 : L < M := by lia
         have hM2 : M < R := by lia
         obtain ⟨S, hS⟩ : ∃ S : Nat, S = n.toNat * (M - L).toNat := ⟨_, rfl⟩
         have hSi : (M - L) * n = (S : Int) := by
           rw [hS, Int.natCast_mul, Int.toNat_of_nonneg (by exact q1 ‹_›), Int.toNat_of_nonneg (by lia)]; exact Int.mul_comm ..
         have hS200 : S ≤ 200 := by
           have h1 : (M - L) * n ≤ (ns.length : Int) * n := imr (by lia) (by exact q1 ‹_›)
           have h2 : (ns.length : Int) * n = n * ns.length := Int.mul_comm ..
           lia
         have hp := pow_pos2 S
         obtain ⟨U, hU⟩ : ∃ U, U = x / 2 ^ S := ⟨_, rfl⟩
         have hU0 : 0 ≤ U := by rw [hU]; exact Int.ediv_nonneg hx0 (Int.le_of_lt hp)
         have hUx : U ≤ x := by rw [hU]; exact Int.ediv_le_self _ hx0
         obtain ⟨Lo, hLo⟩ : ∃ Lo, Lo = x % 2 ^ S := ⟨_, rfl⟩
         have hLo0 : 0 ≤ Lo := by rw [hLo]; exact Int.emod_nonneg _ (Int.ne_of_gt hp)
         have hLox : Lo ≤ x := by rw [hLo]; have := Int.emod_add_mul_ediv x (2 ^ S); have := Int.mul_nonneg (Int.le_of_lt hp) hU0; rw [hU] at this; lia
         have hLoS : Lo < 2 ^ S := by rw [hLo]; exact Int.emod_lt_of_pos _ hp
         have hUb : U < 2 ^ (n.toNat * (R - M).toNat) := by
           rw [hU]
           refine Int.ediv_lt_of_lt_mul hp ?_
           rw [hS, ← Int.pow_add, ← Nat.mul_add, show (R - M).toNat + (M - L).toNat = (R - L).toNat by lia]
           exact hxb
         obtain ⟨ns₁, hns₁⟩ : ∃ ns₁, ns₁ = ns.take L.toNat ++ digs n.toNat (M - L).toNat Lo ++ ns.drop M.toNat := ⟨_, rfl⟩
         have hl₁ : ns₁.length = ns.length := by
           rw [hns₁]; simp [digs_len]; lia
         obtain ⟨k, rfl⟩ : ∃ j, k = j + 1 := by
           cases k with
           | zero => lia
           | succ j => exact ⟨j, rfl⟩
         have hpow : (2 : Int) ^ (k + 1) = 2 * 2 ^ k := by rw [Int.pow_succ]; lia
         have k1 : kamI n (k + 1) [.int Lo, .int L, .int M] (ns.map .int) = some (ns₁.map .int) := by
           rw [kamS_of ⟨hn1, hn2, hLo0, by exact q3 ‹_› ‹_›, hL0, hM1, by lia, by lia, hnl, by rw [← hS]; exact hLoS⟩, hns₁]
         have k2 : kamI n (k + 1) [.int U, .int M, .int R] (ns₁.map .int) = some ((ns.take L.toNat ++ digs n.toNat (R - L).toNat x ++ ns.drop R.toNat).map .int) := by
           rw [kamS_of ⟨hn1, hn2, hU0, by exact q3 ‹_› ‹_›, by lia, hM2, by rw [hl₁]; assumption, by lia, by rw [hl₁]; exact hnl, hUb⟩]
           congr 2
           have e1 : (R - L).toNat = (M - L).toNat + (R - M).toNat := by lia
           rw [e1, digs_add, ← hS, ← hU]
           have e2 : digs n.toNat (M - L).toNat Lo = digs n.toNat (M - L).toNat x := by rw [hLo, hS, digs_mod]
           have a1 : (ns.take L.toNat ++ digs n.toNat (M - L).toNat Lo).length = M.toNat := by simp [digs_len]; lia
           have e3 : ns₁.take M.toNat = ns.take L.toNat ++ digs n.toNat (M - L).toNat x := by
             rw [hns₁, List.take_append_of_le_length (by lia), List.take_of_length_le (by lia), e2]
           have e4 : ns₁.drop R.toNat = ns.drop R.toNat := by
             rw [hns₁, List.drop_append, a1, List.drop_eq_nil_of_le (by lia), List.nil_append, List.drop_drop]
             congr 1; lia
           rw [e3, e4]; simp
         refine ⟨false, ?_, ?_⟩
         · show some (L + 1 == R) = some false
           simp; assumption
         · refine ⟨.p (.int M), ?_, .p (.int S), ?_, .p (.int U), ?_, .p (.int Lo), ?_, ?_⟩
           · show some (V.p (.int ((L + R).fdiv (2 ^ 1)))) = _
             obtain ⟨⟨hM⟩⟩ := hM; rw [Int.fdiv_eq_ediv_of_nonneg _ (by decide), hM]; rfl
           · show (mulP (.int (M - L)) (.int n)).map V.p = _
             rw [← hSi]; (delta mulP; dsimp only); rw [if_pos (by exact na (by lia))]; rfl
           · show (shrP (.int x) (.int S)).map V.p = _
             (delta shrP; dsimp only); rw [if_pos (by exact r6), Int.fdiv_eq_ediv_of_nonneg _ (Int.le_of_lt (pow_pos2 _)), hU]; rfl
           · refine lift2_of (a := .int x) (b := .int (U * 2 ^ S)) rfl (lift2_of (a := .int U) (b := .int S) rfl rfl ?_) ?_
             · (delta shlP; dsimp only); rw [if_pos (by exact ⟨by lia, by lia, na (by lia)⟩)]; rfl
             · show some (P.int (Builtin.bitXor x (U * 2 ^ S))) = _
               rw [hU, bitXor_low hx0, hLo]
           · refine ⟨F, [.int Lo, .int L, .int M], ns.map .int, ns₁.map .int, rfl, rfl, Nat.le_refl _, rfl, rfl, rfl, noLsts_ints, noLsts_ints, rfl, k1, ?_⟩
             exact ⟨F, [.int U, .int M, .int R], ns₁.map .int, _, rfl, rfl, Nat.le_refl _, rfl, rfl, rfl, noLsts_ints, noLsts_ints, rfl, k2, rfl, rfl⟩
     · cases h
   · cases h
noncomputable def cntI (a n : Int) : Nat := (((Builtin.Int.intBits a : Nat) + n - 1) / n).toNat
noncomputable def opI : List P → Option P
 | [.int a, .int n] => if 0 ≤ a ∧ a < 2 ^ 64 ∧ 1 ≤ n ∧ n ≤ 64 then some (.lst ((digs n.toNat (cntI a n) a).map .int)) else none
 | _ => none
theorem cnt_facts {a n : Int} (h0 : 0 ≤ a) (h64 : a < 2 ^ 64) (h1 : 1 ≤ n) (hn : n ≤ 64) : cntI a n ≤ 64 ∧ n * (cntI a n : Int) ≤ 200 ∧ a < 2 ^ (n.toNat * cntI a n) ∧ ((Builtin.Int.intBits a : Nat) + n - 1) / n = (cntI a n : Int) := by
 have hb : Builtin.Int.intBits a ≤ 64 := intBits_le_iff.mpr (by exact na (by lia))
 have hx : 0 ≤ ((Builtin.Int.intBits a : Nat) : Int) + n - 1 := by lia
 have hc0 : 0 ≤ (((Builtin.Int.intBits a : Nat) : Int) + n - 1) / n := Int.ediv_nonneg hx (by exact q1 ‹_›)
 have hc : (((Builtin.Int.intBits a : Nat) : Int) + n - 1) / n = (cntI a n : Int) := (Int.toNat_of_nonneg hc0).symm
 have hm := Int.emod_add_mul_ediv (((Builtin.Int.intBits a : Nat) : Int) + n - 1) n
 have hr := Int.emod_nonneg (((Builtin.Int.intBits a : Nat) : Int) + n - 1) (show n ≠ 0 by exact q7 ‹_›)
 have hl := Int.emod_lt_of_pos (((Builtin.Int.intBits a : Nat) : Int) + n - 1) (show 0 < n by assumption)
 rw [hc] at hm
 have hle : (1 : Int) * (cntI a n : Int) ≤ n * (cntI a n : Int) := imr h1 (by exact r6)
 have hge : ((Builtin.Int.intBits a : Nat) : Int) ≤ n * (cntI a n : Int) := by lia
 refine ⟨?_, by lia, ?_, hc⟩
 · by_cases h : (cntI a n : Int) ≤ 64
   · lia
   · have h2 : n * 65 ≤ n * (cntI a n : Int) := iml (by lia) (by exact q1 ‹_›)
     lia
 · have h1 : a.natAbs < 2 ^ (n.toNat * cntI a n) := intBits_le_iff.mp (by
     have : ((n.toNat * cntI a n : Nat) : Int) = n * (cntI a n : Int) := by rw [Int.natCast_mul, Int.toNat_of_nonneg (by exact q1 ‹_›)]
     lia)
   have h2 : (a.natAbs : Int) = a := by lia
   have h3 : ((2 ^ (n.toNat * cntI a n) : Nat) : Int) = 2 ^ (n.toNat * cntI a n) := by simp
   lia
theorem rep_int (m : Nat) : (List.replicate m [P.int 0]).flatten = (List.replicate m (0 : Int)).map .int := by
 induction m with
 | zero => rfl
 | succ m ih => simp only [List.replicate_succ, List.flatten_cons, ih, List.map_cons]; rfl
theorem fn_I : Fn 8 35 opI := by
 obtain ⟨qual, params, body, cs, dV, kV, B, S, T, C⟩ := d_int2digits (rm := 7) (kk := kamI) (fun n ps xs => rfl) (fun n F lst k ps xs xs' h => kamI_ok n F lst k ps xs xs' h)
 refine fn_of_cells B S T C (by decide) fun xs r h => ?_
 obtain ⟨a, n, rfl, h⟩ := ii_inv h
 obtain ⟨hc, h⟩ := ifS h
 ·
   ·
     obtain ⟨h0, h64, h1, hn⟩ := hc
     obtain rfl := sij h
     obtain ⟨c1, c2, c3, c4⟩ := cnt_facts h0 h64 h1 hn
     refine ⟨rfl, (List.replicate (cntI a n) (0 : Int)).map .int, ?_, ?_⟩
     · have e1 : (lift2 fdivP (lift2 subP (lift2 addP (lift1 bitsP (cV 0)) (cV 1)) (cK (.int 1))) (cV 1)) (St.of [.int a, .int n] 3) = some (.p (.int (cntI a n : Int))) := by
         refine lift2_of (a := .int ((Builtin.Int.intBits a : Nat) + n - 1)) (b := .int n) rfl rfl ?_
         (delta fdivP; dsimp only)
         rw [if_pos (by exact ⟨by lia, na (by lia)⟩), Int.fdiv_eq_ediv_of_nonneg _ (by exact q1 ‹_›), c4]
       dsimp only [nRep]
       rw [e1]
       show (if 0 ≤ (cntI a n : Int) ∧ (cntI a n : Int) ≤ 1000 ∧ ([P.int 0] : List P).length = 1 then some (List.replicate ((cntI a n : Int)).toNat [P.int 0]).flatten else none) = _
       rw [if_pos ⟨by exact r6, by lia, rfl⟩, Int.toNat_natCast, rep_int]
     · refine ⟨n, (List.replicate (cntI a n) (0 : Int)).map .int, (digs n.toNat (cntI a n) a).map .int, 7, (a != 0), rfl, rfl, rfl, rfl, noLsts_ints, noLsts_ints, Nat.le_refl _, fun F => ⟨rfl, ?_, ?_⟩⟩
       · by_cases ha : a = 0
         · have e0 : (a != 0) = false := by simp [ha]
           rw [e0, if_neg (by simp)]
           have hz : cntI a n = 0 := by
             subst ha
             dsimp only [cntI]
             rw [show Builtin.Int.intBits 0 = 0 from rfl, Int.ediv_eq_zero_of_lt (by lia) (by lia)]; rfl
           rw [hz]; rfl
         · have e0 : (a != 0) = true := by simp [ha]
           rw [e0, if_pos rfl]
           have hcp : 0 < cntI a n := by
             rcases Nat.eq_zero_or_pos (cntI a n) with hz | hz
             · rw [hz, Nat.mul_zero] at c3; lia
             · exact hz
           refine ⟨[.int a, .int 0, .int (cntI a n : Int)], ?_, rfl, ?_⟩
           · refine cCons_of rfl (cCons_of rfl (cCons_of (cApp_of (vs := [.own 0]) rfl ?_) rfl))
             show (if ((List.replicate (cntI a n) (0 : Int)).map P.int).length ≤ 100000 then some (P.int ((List.replicate (cntI a n) (0 : Int)).map P.int).length) else none) = _
             rw [List.length_map, List.length_replicate, if_pos (by exact n9 ‹_› (by decide))]
           · rw [kamS_of (k := 6) ⟨h1, hn, h0, h64, by exact r6, by lia, by simp, by simp; lia, by simp; exact c2, by simpa using c3⟩]
             simp [List.take_of_length_le, List.drop_eq_nil_of_le]
       · show outP _ (.own 0) = _
         (delta outP; dsimp only)
         show (some ((digs n.toNat (cntI a n) a).map P.int)).bind _ = _
         rw [Option.bind_some, if_pos noLsts_ints]
theorem val_nonneg {n : Nat} : ∀ {ns : List Int}, (∀ d ∈ ns, 0 ≤ d) → 0 ≤ val n ns
 | [], _ => Int.le_refl _
 | d :: ds, h => by
   have h1 := h d (.head _)
   have h2 := Int.mul_nonneg (Int.le_of_lt (pow_pos2 n)) (val_nonneg (n := n) fun x hx => h x (.tail _ hx))
   simp only [val]; lia
noncomputable def seg (ns : List Int) (L R : Nat) : List Int := (ns.drop L).take (R - L)
theorem seg_split {ns : List Int} {L M R : Nat} (h1 : L ≤ M) (h2 : M ≤ R) : seg ns L R = seg ns L M ++ seg ns M R := by
 unfold seg
 rw [show R - L = (M - L) + (R - M) by lia, List.take_add, List.drop_drop, show L + (M - L) = M by lia]
theorem seg_mem {ns : List Int} {L R : Nat} {d : Int} (h : d ∈ seg ns L R) : d ∈ ns := List.mem_of_mem_drop (List.mem_of_mem_take h)
theorem seg_len {ns : List Int} {L R : Nat} (h : R ≤ ns.length) : (seg ns L R).length = R - L := by
 unfold seg; rw [List.length_take, List.length_drop]; lia
noncomputable def kapS (ds : List P) (n : Int) (k : Nat) : List P → Option P
 | [.int L, .int R] => (match intsP ds with
   | some ns => if 1 ≤ n ∧ n ≤ 64 ∧ 0 ≤ L ∧ L < R ∧ R ≤ ns.length ∧ R - L ≤ 2 ^ k ∧ n * ns.length ≤ 200 ∧ (∀ d ∈ ns, 0 ≤ d) ∧ val n.toNat (seg ns L.toNat R.toNat) < 2 ^ 64 then some (.int (val n.toNat (seg ns L.toNat R.toNat))) else none
   | none => none)
 | _ => none
noncomputable def kapI (ds : List P) (n : Int) : Nat → List P → Option P
 | 0, _ => none
 | k + 1, ps => kapS ds n k ps
theorem kapS_of {ns : List Int} {n : Int} {k : Nat} {L R : Int} (h : 1 ≤ n ∧ n ≤ 64 ∧ 0 ≤ L ∧ L < R ∧ R ≤ ns.length ∧ R - L ≤ 2 ^ k ∧ n * ns.length ≤ 200 ∧ (∀ d ∈ ns, 0 ≤ d) ∧ val n.toNat (seg ns L.toNat R.toNat) < 2 ^ 64) :
   kapI (ns.map .int) n (k + 1) [.int L, .int R] = some (.int (val n.toNat (seg ns L.toNat R.toNat))) := by
 show (match intsP (ns.map .int) with
   | some ns => if 1 ≤ n ∧ n ≤ 64 ∧ 0 ≤ L ∧ L < R ∧ R ≤ ns.length ∧ R - L ≤ 2 ^ k ∧ n * ns.length ≤ 200 ∧ (∀ d ∈ ns, 0 ≤ d) ∧ val n.toNat (seg ns L.toNat R.toNat) < 2 ^ 64 then some (P.int (val n.toNat (seg ns L.toNat R.toNat))) else none
   | none => (none : Option P)) = _
 rw [intsP_ints]
 exact if_pos h
theorem kapI_ok (ds : List P) (n : Int) (F : Addr) (k : Nat) (ps : List P) (r : P) (h : kapI ds n (k + 1) ps = some r) : ps.length = 2 ∧ W_d2i k ⟨ps.map (fun x => some (.p x)) ++ [none, none, some (.p (.lst ds)), some (.p (.raw (.ref F))), some (.p (.int n))], [], ⟨F, k, kapI ds n k, false, 0, fun zz zz => none⟩⟩ (Outs r) := by
 have h : kapS ds n k ps = some r := h
 obtain ⟨L, R, rfl, h'⟩ := ii_inv h
 clear h
 have h := h'
 clear h'
 ·
   split at h
   · rename_i ns hns
     split at h
     · rename_i hc
       obtain ⟨hn1, hn2, hL0, hLR, hRl, hRk, hnl, hpos, hv⟩ := hc
       obtain rfl := sij h
       obtain rfl := intsP_map hns
       refine ⟨rfl, ?_⟩
       have hlen0 : ns.length ≤ 200 := by
         have h1 : (1 : Int) * ns.length ≤ n * ns.length := imr hn1 (by exact r6)
         lia
       by_cases hb : L + 1 = R
       · refine ⟨true, ?_, ?_⟩
         · show some (L + 1 == R) = some true
           rw [hb]; simp
         · have hl : L.toNat < ns.length := by lia
           have e1 : seg ns L.toNat R.toNat = [ns[L.toNat]] := by
             unfold seg
             rw [show R.toNat - L.toNat = 1 by lia, List.drop_eq_getElem_cons hl]; rfl
           rw [e1]
           refine ⟨.p (.int ns[L.toNat]), cSub_of (v := .p (.lst (ns.map .int))) (k := L) rfl rfl (by lia) ?_, ?_⟩
           · show ((seqIndex? L (ns.map P.int).length).bind fun i => (ns.map P.int)[i]?) = _
             have e2 : seqIndex? L (ns.map P.int).length = some L.toNat := by
               unfold seqIndex?
               rw [List.length_map]
               simp only [if_neg (show ¬ L < 0 by lia)]
               simp; lia
             rw [e2]; simp [hl]
           · show some (P.int ns[L.toNat]) = some (.int (val n.toNat [ns[L.toNat]]))
             simp [val]
       · have h2 : L + 2 ≤ R := by lia
         obtain ⟨M, hM⟩ : ∃ M, Nonempty (PLift (M = (L + R) / 2)) := ⟨_, ⟨⟨rfl⟩⟩⟩
         have hMb : 2 * M ≤ L + R ∧ L + R < 2 * M + 2 := by obtain ⟨⟨e⟩⟩ := hM; lia
         have hM1 : L < M := by lia
         have hM2 : M < R := by lia
         obtain ⟨S, hS⟩ : ∃ S : Nat, S = n.toNat * (M - L).toNat := ⟨_, rfl⟩
         have hSi : (M - L) * n = (S : Int) := by
           rw [hS, Int.natCast_mul, Int.toNat_of_nonneg (by exact q1 ‹_›), Int.toNat_of_nonneg (by lia)]; exact Int.mul_comm ..
         have hS1000 : (S : Int) ≤ 200 := by
           have h1 : (M - L) * n ≤ (ns.length : Int) * n := imr (by lia) (by exact q1 ‹_›)
           have h2 : (ns.length : Int) * n = n * ns.length := Int.mul_comm ..
           lia
         have hsp : seg ns L.toNat R.toNat = seg ns L.toNat M.toNat ++ seg ns M.toNat R.toNat := seg_split (by lia) (by lia)
         have hlen : (seg ns L.toNat M.toNat).length = (M - L).toNat := by rw [seg_len (by lia)]; lia
         have hval : val n.toNat (seg ns L.toNat R.toNat) = val n.toNat (seg ns L.toNat M.toNat) + 2 ^ S * val n.toNat (seg ns M.toNat R.toNat) := by rw [hsp, val_app, hlen, ← hS]
         have p1 := val_nonneg (n := n.toNat) (ns := seg ns L.toNat M.toNat) fun d hd => hpos d (seg_mem hd)
         have p2 := val_nonneg (n := n.toNat) (ns := seg ns M.toNat R.toNat) fun d hd => hpos d (seg_mem hd)
         have p3 : 1 * val n.toNat (seg ns M.toNat R.toNat) ≤ 2 ^ S * val n.toNat (seg ns M.toNat R.toNat) := imr (by have := pow_pos2 S; assumption) p2
         obtain ⟨k, rfl⟩ : ∃ j, k = j + 1 := by
           cases k with
           | zero => lia
           | succ j => exact ⟨j, rfl⟩
         have hpow : (2 : Int) ^ (k + 1) = 2 * 2 ^ k := by rw [Int.pow_succ]; lia
         have k1 := kapS_of (ns := ns) (n := n) (k := k) (L := L) (R := M) ⟨hn1, hn2, hL0, hM1, by lia, by lia, hnl, hpos, by lia⟩
         have k2 := kapS_of (ns := ns) (n := n) (k := k) (L := M) (R := R) ⟨hn1, hn2, by lia, hM2, by assumption, by lia, hnl, hpos, by lia⟩
         refine ⟨false, ?_, ?_⟩
         · show some (L + 1 == R) = some false
           simp; assumption
         · refine ⟨.p (.int M), ?_, .p (.int S), ?_, ?_⟩
           · show some (V.p (.int ((L + R).fdiv (2 ^ 1)))) = _
             obtain ⟨⟨hM⟩⟩ := hM; rw [Int.fdiv_eq_ediv_of_nonneg _ (by decide), hM]; rfl
           · refine lift2_of (a := .int (M - L)) (b := .int n) rfl rfl ?_
             rw [← hSi]; (delta mulP; dsimp only); rw [if_pos (by exact na (by lia))]
           · have key : ∀ {σ : St} {a b : Int} {i j : Nat}, cV 5 σ = some (.p (.raw (.ref F))) → cV i σ = some (.p (.int a)) → cV j σ = some (.p (.int b)) → σ.ky = ⟨F, k + 1, kapI (ns.map .int) n (k + 1), false, 0, fun zz zz => none⟩ → ∀ {x : P}, kapI (ns.map .int) n (k + 1) [.int a, .int b] = some x → cKey (k + 1) (cV 5) (cCons (cV i) (cCons (cV j) cNil)) σ = some (.p x) := by
               intro σ a b i j h5 hi hj hky x hx
               unfold cKey
               rw [h5, cCons_of hi (cCons_of hj rfl)]
               simp only [hky, and_self, Nat.le_refl, if_true]
               show ((some [P.int a, P.int b]).bind (kapI (ns.map .int) n (k + 1))).map V.p = _
               rw [Option.bind_some, hx]; rfl
             refine ⟨.p (.int (val n.toNat (seg ns L.toNat R.toNat))), ?_, rfl⟩
             refine lift2_of (a := .int (val n.toNat (seg ns M.toNat R.toNat) * 2 ^ S)) (b := .int (val n.toNat (seg ns L.toNat M.toNat))) (lift2_of (a := .int (val n.toNat (seg ns M.toNat R.toNat))) (b := .int S) (key (a := M) (b := R) rfl rfl rfl rfl k2) rfl ?_) (key (a := L) (b := M) rfl rfl rfl rfl k1) ?_
             · (delta shlP; dsimp only); rw [if_pos (by exact ⟨by lia, by lia, na (by lia)⟩)]; rfl
             · show some (P.int _) = _
               rw [hval, Int.mul_comm (2 ^ S), Int.add_comm]
     · cases h
   · cases h
noncomputable def opG : List P → Option P
 | [.lst ds, .int n] => (match intsP ds with
   | some ns => if 1 ≤ n ∧ n ≤ 64 ∧ n * ns.length ≤ 200 ∧ (∀ d ∈ ns, 0 ≤ d) ∧ val n.toNat ns < 2 ^ 64 then some (.int (val n.toNat ns)) else none
   | none => none)
 | _ => none
theorem fn_G : Fn 10 42 opG := by
 obtain ⟨qual, params, body, cs, dV, kV, B, S, T, C⟩ := d_digits2int (rm := 9) (kk := kapI) (fun ds n ps => rfl) (fun ds n F k ps r h => kapI_ok ds n F k ps r h)
 refine fn_of_cells B S T C (by decide) fun xs r h => ?_
 obtain ⟨ds, n, rfl, h'⟩ := li_inv h
 clear h
 have h := h'
 clear h'
 ·
   split at h
   · rename_i ns hns
     split at h
     · rename_i hc
       obtain ⟨h1, hn, hl, hpos, hv⟩ := hc
       obtain rfl := sij h
       obtain rfl := intsP_map hns
       have hlen : ns.length ≤ 200 := by
         have h2 : (1 : Int) * ns.length ≤ n * ns.length := imr h1 (by exact r6)
         lia
       refine ⟨rfl, ns.map .int, n, .int (val n.toNat ns), 9, !(ns.map P.int).isEmpty, rfl, rfl, rfl, rfl, rfl, Nat.le_refl _, fun F => ⟨?_, ?_, rfl⟩⟩
       · show (if (ns.map P.int).length ≤ 1000 then some (!(ns.map P.int).isEmpty) else none) = _
         rw [List.length_map, if_pos (by exact n9 ‹_› (by decide))]
       · cases hns : ns with
         | nil => simp [val]
         | cons d ds =>
           rw [← hns]
           have e0 : (!(ns.map P.int).isEmpty) = true := by rw [hns]; rfl
           have hlp : 0 < ns.length := by rw [hns]; simp
           rw [e0, if_pos rfl]
           refine ⟨[.int 0, .int (ns.length : Int)], ?_, ?_⟩
           · refine cCons_of rfl (cCons_of (cApp_of (vs := [.p (.lst (ns.map .int))]) rfl ?_) rfl)
             show (if (ns.map P.int).length ≤ 100000 then some (P.int (ns.map P.int).length) else none) = _
             rw [List.length_map, if_pos (by exact n9 ‹_› (by decide))]
           · have e1 : seg ns (Int.toNat 0) ((ns.length : Int)).toNat = ns := by
               unfold seg; simp
             have := kapS_of (ns := ns) (n := n) (k := 8) (L := 0) (R := ns.length) ⟨h1, hn, Int.le_refl _, by lia, Int.le_refl _, by lia, hl, hpos, by rw [e1]; exact hv⟩
             rw [e1] at this
             exact this
     · cases h
   · cases h
theorem val_digs {n : Nat} : ∀ {m : Nat} {x : Int}, 0 ≤ x → x < 2 ^ (n * m) → val n (digs n m x) = x
 | 0, x, h0, h1 => by simp at h1; simp [digs, val]; lia
 | m + 1, x, h0, h1 => by
   have hp := pow_pos2 n
   have h2 : x / 2 ^ n < 2 ^ (n * m) := Int.ediv_lt_of_lt_mul hp (by rw [← Int.pow_add, show n * m + n = n * (m + 1) by rw [Nat.mul_add]; lia]; exact h1)
   simp only [digs, val, val_digs (Int.ediv_nonneg h0 (Int.le_of_lt hp)) h2]
   exact Int.emod_add_mul_ediv x (2 ^ n)
theorem digs_range {n : Nat} : ∀ {m : Nat} {x : Int}, ∀ d ∈ digs n m x, 0 ≤ d ∧ d < 2 ^ n
 | 0, _, d, h => by simp [digs] at h
 | m + 1, x, d, h => by
   simp only [digs, List.mem_cons] at h
   rcases h with rfl | h
   · exact ⟨Int.emod_nonneg _ (Int.ne_of_gt (pow_pos2 n)), Int.emod_lt_of_pos _ (pow_pos2 n)⟩
   · exact digs_range d h
theorem pow2_mono {a b : Nat} (h : a ≤ b) : (2 : Int) ^ a ≤ 2 ^ b := by
 obtain ⟨c, rfl⟩ := Nat.exists_eq_add_of_le h
 rw [Int.pow_add]
 have := iml (show (1 : Int) ≤ 2 ^ c from pow_pos2 c) (Int.le_of_lt (pow_pos2 a))
 lia
noncomputable def dmL (b : Int) (n : Nat) : List Int → Int → List Int × Int
 | [], ρ => ([], ρ)
 | d :: ds, ρ => ((ρ * 2 ^ n + d) / b :: (dmL b n ds ((ρ * 2 ^ n + d) % b)).1, (dmL b n ds ((ρ * 2 ^ n + d) % b)).2)
theorem dmL_len {b : Int} {n : Nat} : ∀ {ds : List Int} {ρ : Int}, (dmL b n ds ρ).1.length = ds.length
 | [], _ => rfl
 | d :: ds, ρ => congrArg (· + 1) dmL_len
theorem dmL_val {b : Int} {n : Nat} (hb : 0 < b) : ∀ {ds : List Int} {ρ : Int}, 0 ≤ ρ → ρ < b → (∀ d ∈ ds, 0 ≤ d) → val n (dmL b n ds ρ).1.reverse * b + (dmL b n ds ρ).2 = ρ * 2 ^ (n * ds.length) + val n ds.reverse ∧ 0 ≤ (dmL b n ds ρ).2 ∧ (dmL b n ds ρ).2 < b ∧ ∀ q ∈ (dmL b n ds ρ).1, 0 ≤ q
 | [], ρ, h0, h1, _ => by simp [dmL, val]; exact ⟨h0, h1⟩
 | d :: ds, ρ, h0, h1, hd => by
   have hx : 0 ≤ ρ * 2 ^ n + d := by
     have := Int.mul_nonneg h0 (Int.le_of_lt (pow_pos2 n)); have := hd d (.head _); lia
   refine wg fun P' bk => ?_
   obtain ⟨i1, i2, i3, i4⟩ := dmL_val (n := n) hb (ds := ds) (ρ := (ρ * 2 ^ n + d) % b) (Int.emod_nonneg _ (by exact q7 ‹_›)) (Int.emod_lt_of_pos _ hb) fun x hx => hd x (.tail _ hx)
   have hm := Int.emod_add_mul_ediv (ρ * 2 ^ n + d) b
   refine bk ?_
   refine ⟨?_, i2, i3, fun q hq => ?_⟩
   · simp only [dmL, List.reverse_cons, val_app, List.length_reverse, dmL_len, val, List.length_cons]
     have e : (2 : Int) ^ (n * (ds.length + 1)) = 2 ^ (n * ds.length) * 2 ^ n := by rw [← Int.pow_add]; congr 1
     rw [e]
     generalize (ρ * 2 ^ n + d) / b = q0 at *
     generalize hr1 : (ρ * 2 ^ n + d) % b = r1 at *
     generalize (2 : Int) ^ (n * ds.length) = z at *
     generalize (2 : Int) ^ n = y at *
     generalize (dmL b n ds r1).2 = ρ' at *
     generalize val n (dmL b n ds r1).1.reverse = v1 at *
     generalize val n ds.reverse = v2 at *
     grind
   · simp only [dmL, List.mem_cons] at hq
     rcases hq with rfl | hq
     · exact Int.ediv_nonneg hx (Int.le_of_lt hb)
     · exact i4 q hq
noncomputable def opP : List P → Option P
 | [.int a, .int b] => if 0 ≤ a ∧ a < 2 ^ 64 ∧ 0 < b ∧ b < 2 ^ 64 then some (.tup [.int (a / b), .int (a % b)]) else none
 | _ => none
noncomputable def stP (a b n : Int) (ad : List P) (ρ : Int) (dv qv : Option V) (rest : List (Option V)) (qs : List P) : St := ⟨some (.p (.int a)) :: some (.p (.int b)) :: some (.p (.int n)) :: some (.p (.lst ad)) :: some (.p (.int ρ)) :: some (.own 0) :: dv :: qv :: rest, [qs], Ky.no⟩
theorem dm_turns {a b n : Int} {ad : List P} {rest : List (Option V)} {Po : Post} (hb : 0 < b) (hb64 : b < 2 ^ 64) (hn1 : 1 ≤ n) (hn : n ≤ 64) : ∀ (ds : List Int) (ρ : Int) (qs : List P) (dv qv : Option V), (∀ d ∈ ds, 0 ≤ d ∧ d < 2 ^ n.toNat) → 0 ≤ ρ → ρ < b → qs.length + ds.length ≤ 1000 →
   (∀ dv' qv', Po .next (stP a b n ad (dmL b n.toNat ds ρ).2 dv' qv' rest (qs ++ (dmL b n.toNat ds ρ).1.map .int))) →
   wTurns (fun zz => True) (fun σ v => some (σ.put 6 v)) (wSeq (wUnp [7, 4] (cApp (opF opV) (cCons (lift2 addP (lift2 shlP (cV 4) (cV 2)) (cV 6)) (cCons (cV 1) (cCons (cV 2) cNil))))) (wSeq (wApp (cV 5) (xOf (cV 7))) wNil)) (ds.map .int) (stP a b n ad ρ dv qv rest qs) Po
 | [], ρ, qs, dv, qv, _, _, _, _, h => by
   have := h dv qv
   simp only [dmL, List.map_nil, List.append_nil] at this
   exact this
 | d :: ds, ρ, qs, dv, qv, hd, h0, h1, hl, h => by
   obtain ⟨hd0, hd1⟩ := hd d (.head _)
   have hp := pow_pos2 n.toNat
   have hx0 : 0 ≤ ρ * 2 ^ n.toNat + d := by have := Int.mul_nonneg h0 (Int.le_of_lt hp); lia
   have hxb : (ρ * 2 ^ n.toNat + d).natAbs < 2 ^ 200 := by
     have e1 : (2 : Int) ^ n.toNat ≤ 2 ^ 64 := pow2_mono (by lia)
     have e2 : ρ * 2 ^ n.toNat ≤ 2 ^ 64 * 2 ^ 64 := Int.le_trans (imr (show ρ ≤ 2 ^ 64 by lia) (Int.le_of_lt hp)) (iml e1 (by decide))
     lia
   refine ⟨stP a b n ad ρ (some (.p (.int d))) qv rest qs, rfl, ?_⟩
   refine ⟨.p (.tup [.int ((ρ * 2 ^ n.toNat + d) / b), .int ((ρ * 2 ^ n.toNat + d) % b)]), [.int ((ρ * 2 ^ n.toNat + d) / b), .int ((ρ * 2 ^ n.toNat + d) % b)], stP a b n ad ((ρ * 2 ^ n.toNat + d) % b) (some (.p (.int d))) (some (.p (.int ((ρ * 2 ^ n.toNat + d) / b)))) rest qs, ?_, rfl, rfl, ?_⟩
   · refine cApp_of (vs := [.p (.int (ρ * 2 ^ n.toNat + d)), .p (.int b), .p (.int n)]) (cCons_of (lift2_of (a := .int (ρ * 2 ^ n.toNat)) (b := .int d) (lift2_of (a := .int ρ) (b := .int n) rfl rfl ?_) rfl rfl) rfl) (opF_of rfl ?_)
     · (delta shlP; dsimp only); rw [if_pos (by exact ⟨by lia, by lia, na (by lia)⟩)]
     · (delta opV; dsimp only)
       rw [if_pos ⟨by exact q7 ‹_›, by exact na (by lia), hxb, by exact q1 ‹_›⟩, Int.fdiv_eq_ediv_of_nonneg _ (by exact q1 ‹_›), Int.fmod_eq_emod_of_nonneg _ (by exact q1 ‹_›)]
   · refine ⟨0, qs, .int ((ρ * 2 ^ n.toNat + d) / b), _, rfl, rfl, rfl, by simp at hl; lia, trivial, ?_⟩
     refine dm_turns hb hb64 hn1 hn ds ((ρ * 2 ^ n.toNat + d) % b) (qs ++ [.int ((ρ * 2 ^ n.toNat + d) / b)]) _ _ (fun x hx => hd x (.tail _ hx)) (Int.emod_nonneg _ (by exact q7 ‹_›)) (Int.emod_lt_of_pos _ hb) (by simp at hl ⊢; lia) fun dv' qv' => ?_
     have := h dv' qv'
     simp only [dmL, List.map_cons] at this
     simpa using this
theorem fn_P : Fn 11 49 opP := fn_of_d (d_divmod_pos (rm := 10) (fn_I.mono (by decide)) (fn_V.mono (show 1 ≤ 10 by decide)) fn_G) fun xs r h => by
 obtain ⟨a, b, rfl, h⟩ := ii_inv h
 obtain ⟨hc, h⟩ := ifS h
 ·
   ·
     refine wg fun P' bk => ?_
     obtain ⟨ha0, ha, hb0, hb⟩ := hc
     obtain rfl := sij h
     obtain ⟨n, hn⟩ : ∃ n : Int, n = ((Builtin.Int.intBits b : Nat) : Int) := ⟨_, rfl⟩
     have hb64 : Builtin.Int.intBits b ≤ 64 := intBits_le_iff.mpr (by exact na (by lia))
     have hb1 : 1 ≤ Builtin.Int.intBits b := by
       rcases Nat.eq_zero_or_pos (Builtin.Int.intBits b) with h | h
       · have := (intBits_le_iff (m := 0) (x := b)).mp (by lia); lia
       · exact h
     have hn1 : 1 ≤ n := by lia
     have hn64 : n ≤ 64 := by lia
     obtain ⟨c1, c2, c3, c4⟩ := cnt_facts ha0 ha hn1 hn64
     refine bk ?_
     refine ⟨rfl, .p (.int n), by rw [hn]; rfl, .p (.lst ((digs n.toNat (cntI a n) a).map .int)), ?_, .p (.int 0), rfl, [], rfl, ?_⟩
     · refine cApp_of (vs := [.p (.int a), .p (.int n)]) rfl (opF_of rfl ?_)
       (delta opI; dsimp only); rw [if_pos ⟨ha0, ha, hn1, hn64⟩]
     · refine ⟨(digs n.toNat (cntI a n) a).map .int, rfl, ?_⟩
       rw [← List.map_reverse]
       have hrng : ∀ d ∈ (digs n.toNat (cntI a n) a).reverse, 0 ≤ d ∧ d < 2 ^ n.toNat := fun d hd => digs_range d (List.mem_reverse.mp hd)
       have hv := dmL_val (n := n.toNat) hb0 (ds := (digs n.toNat (cntI a n) a).reverse) (ρ := 0) (Int.le_refl _) hb0 fun d hd => (hrng d hd).1
       rw [List.reverse_reverse, val_digs ha0 c3] at hv
       refine dm_turns (a := a) (b := b) (n := n) (ad := (digs n.toNat (cntI a n) a).map .int) (rest := List.replicate 5 none) hb0 hb hn1 hn64 _ 0 [] none none hrng (Int.le_refl _) hb0 (by simp [digs_len]; exact n9 ‹_› (by decide)) fun dv qv => ?_
       have hq : val n.toNat (dmL b n.toNat (digs n.toNat (cntI a n) a).reverse 0).1.reverse = a / b ∧ (dmL b n.toNat (digs n.toNat (cntI a n) a).reverse 0).2 = a % b := by
         obtain ⟨h1, h2, h3, _⟩ := hv
         have h4 := (Int.ediv_emod_unique hb0 (a := a) (r := (dmL b n.toNat (digs n.toNat (cntI a n) a).reverse 0).2) (q := val n.toNat (dmL b n.toNat (digs n.toNat (cntI a n) a).reverse 0).1.reverse)).mpr ⟨by rw [Int.mul_comm b]; lia, h2, h3⟩
         exact ⟨h4.1.symm, h4.2.symm⟩
       refine wg fun P' bk => ?_
       obtain ⟨hq1, hq2⟩ := hq
       have hqn : ∀ q ∈ (dmL b n.toNat (digs n.toNat (cntI a n) a).reverse 0).1, 0 ≤ q := hv.2.2.2
       have hql : (dmL b n.toNat (digs n.toNat (cntI a n) a).reverse 0).1.length = cntI a n := by rw [dmL_len, List.length_reverse, digs_len]
       refine bk ?_
       rw [hq2]
       generalize (dmL b n.toNat (digs n.toNat (cntI a n) a).reverse 0).1 = qs at *
       refine ⟨0, qs.map .int, rfl, rfl, by rw [List.length_map]; lia, .p (.int (a / b)), ?_, .p (.tup [.int (a / b), .int (a % b)]), ?_, rfl⟩
       · refine cApp_of (vs := [.own 0, .p (.int n)]) rfl (opF_of (ps := [.lst (qs.map P.int).reverse, .int n]) rfl ?_)
         rw [← List.map_reverse]
         show (match intsP (qs.reverse.map .int) with
           | some ns => if 1 ≤ n ∧ n ≤ 64 ∧ n * ns.length ≤ 200 ∧ (∀ d ∈ ns, 0 ≤ d) ∧ val n.toNat ns < 2 ^ 64 then some (P.int (val n.toNat ns)) else none
           | none => none) = _
         rw [intsP_ints]
         show (if 1 ≤ n ∧ n ≤ 64 ∧ n * (qs.reverse.length : Int) ≤ 200 ∧ (∀ d ∈ qs.reverse, 0 ≤ d) ∧ val n.toNat qs.reverse < 2 ^ 64 then some (P.int (val n.toNat qs.reverse)) else none) = _
         have hle := Int.ediv_le_self b ha0
         rw [if_pos ⟨hn1, hn64, by rw [List.length_reverse, hql]; exact c2, fun d hd => hqn d (List.mem_reverse.mp hd), by rw [hq1]; exact q3 ‹_› ‹_›⟩, hq1]
       · exact cTup_of (vs := [.p (.int (a / b)), .p (.int (a % b))]) rfl rfl (Nat.le_of_ble_eq_true rfl)
noncomputable def opN : List P → Option P := fun zz => none
theorem fn_N {rm : Nat} {f : Addr} : Fn rm f opN := by
 intro G s xs ys r A Q _ _ _ _ h
 cases h
noncomputable def op0 : List P → Option P
 | [.int a, .int b] => if 0 ≤ a ∧ a < 2 ^ 64 ∧ 0 < b ∧ b < 2 ^ 64 then some (.tup [.int (a / b), .int (a % b)]) else none
 | _ => none
noncomputable def op1 : List P → Option P
 | [.int a, .int b] => if a.natAbs < 2 ^ 64 ∧ 0 < b ∧ b < 2 ^ 64 then some (.tup [.int (a / b), .int (a % b)]) else none
 | _ => none
noncomputable def qD (a b : Int) : Int := if 0 < b then a / b else -a / -b
noncomputable def rD (a b : Int) : Int := if 0 < b then a % b else -(-a % -b)
noncomputable def opD : List P → Option P
 | [.int a, .int b] => if a.natAbs < 2 ^ 64 ∧ b ≠ 0 ∧ b.natAbs < 2 ^ 64 then some (.tup [.int (qD a b), .int (rD a b)]) else none
 | _ => none
theorem eqb_f {a b : Int} (h : a ≠ b) : (a == b) = false := by simpa using h
theorem two_tup {f g : St → Option V} {σ : St} {a b : P} (h1 : f σ = some (.p a)) (h2 : g σ = some (.p b)) : cTup (cCons f (cCons g cNil)) σ = some (.p (.tup [a, b])) :=
 cTup_of (vs := [.p a, .p b]) (cCons_of h1 (cCons_of h2 rfl)) rfl (by simp)
theorem fn_D0 : Fn 12 56 op0 := fn_of_d (d_int_divmod (rm := 11) (fn_N (f := 56)) fn_P) fun xs r h => by
 obtain ⟨a, b, rfl, h⟩ := ii_inv h
 obtain ⟨hc, h⟩ := ifS h
 ·
   ·
     obtain rfl := sij h
     refine ⟨rfl, false, ?_, false, ?_, false, ?_, ?_⟩
     · show some (b == 0) = _; rw [eqb_f (by omega)]
     · show some (decide (b < 0)) = _; rw [decide_eq_false (by omega)]
     · show some (decide (a < 0)) = _; rw [decide_eq_false (by omega)]
     · refine ⟨.p (.tup [.int (a / b), .int (a % b)]), cApp_of (vs := [.p (.int a), .p (.int b)]) rfl (opF_of rfl ?_), rfl⟩
       (delta opP; dsimp only); exact if_pos hc
theorem fn_D1 : Fn 13 56 op1 := fn_of_d (d_int_divmod (rm := 12) fn_D0 (fn_P.mono (by decide))) fun xs r h => by
 obtain ⟨a, b, rfl, h⟩ := ii_inv h
 obtain ⟨hc, h⟩ := ifS h
 ·
   ·
     obtain ⟨ha, hb0, hb⟩ := hc
     obtain rfl := sij h
     refine ⟨rfl, false, ?_, false, ?_, ?_⟩
     · show some (b == 0) = _; rw [eqb_f (by omega)]
     · show some (decide (b < 0)) = _; rw [decide_eq_false (by omega)]
     · by_cases hn : a < 0
       · obtain ⟨e1, e2⟩ := (Int.ediv_emod_unique hb0 (a := a) (r := b + (-((-a - 1) % b) - 1)) (q := -((-a - 1) / b) - 1)).mpr (by
           have h1 := Int.emod_add_mul_ediv (-a - 1) b
           have h2 := Int.emod_nonneg (-a - 1) (show b ≠ 0 by omega)
           have h3 := Int.emod_lt_of_pos (-a - 1) hb0
           have h4 : b * (-((-a - 1) / b) - 1) = -(b * ((-a - 1) / b)) - b := by rw [Int.mul_sub, Int.mul_neg, Int.mul_one]
           omega)
         refine ⟨true, by show some (decide (a < 0)) = _; rw [decide_eq_true hn], ?_⟩
         refine ⟨.p (.tup [.int ((-a - 1) / b), .int ((-a - 1) % b)]), _, _, cApp_of (vs := [.p (.int (-a - 1)), .p (.int b)]) (cCons_of (lift1_of (a := .int a) rfl rfl) rfl) (opF_of rfl ?_), rfl, rfl, ?_⟩
         · (delta op0; dsimp only); exact if_pos (by omega)
         · refine ⟨.p (.tup [.int (a / b), .int (a % b)]), two_tup (lift1_of (a := .int ((-a - 1) / b)) rfl ?_) (lift2_of (a := .int b) (b := .int (-((-a - 1) % b) - 1)) rfl (lift1_of (a := .int ((-a - 1) % b)) rfl rfl) ?_), rfl⟩
           · rw [e1]; rfl
           · rw [e2]; rfl
       · refine ⟨false, by show some (decide (a < 0)) = _; rw [decide_eq_false hn], ?_⟩
         refine ⟨.p (.tup [.int (a / b), .int (a % b)]), cApp_of (vs := [.p (.int a), .p (.int b)]) rfl (opF_of rfl ?_), rfl⟩
         (delta opP; dsimp only); exact if_pos (by omega)
theorem fn_D : Fn 14 56 opD := fn_of_d (d_int_divmod (rm := 13) fn_D1 (fn_P.mono (by decide))) fun xs r h => by
 obtain ⟨a, b, rfl, h⟩ := ii_inv h
 obtain ⟨hc, h⟩ := ifS h
 ·
   ·
     obtain ⟨ha, hb0, hb⟩ := hc
     obtain rfl := sij h
     refine ⟨rfl, false, ?_, ?_⟩
     · show some (b == 0) = _; rw [eqb_f hb0]
     · by_cases hbn : b < 0
       · have hq : qD a b = -a / -b := if_neg (by omega)
         have hr : rD a b = -(-a % -b) := if_neg (by omega)
         refine ⟨true, by show some (decide (b < 0)) = _; rw [decide_eq_true hbn], ?_⟩
         refine ⟨.p (.tup [.int (-a / -b), .int (-a % -b)]), _, _, cApp_of (vs := [.p (.int (-a)), .p (.int (-b))]) (cCons_of (lift1_of (a := .int a) rfl rfl) (cCons_of (lift1_of (a := .int b) rfl rfl) rfl)) (opF_of rfl ?_), rfl, rfl, ?_⟩
         · (delta op1; dsimp only); exact if_pos (by omega)
         · refine ⟨.p (.tup [.int (qD a b), .int (rD a b)]), two_tup ?_ ?_, rfl⟩
           · rw [hq]; rfl
           · rw [hr]; exact lift1_of (a := .int (-a % -b)) rfl rfl
       · have hbp : 0 < b := by omega
         have hq : qD a b = a / b := if_pos hbp
         have hr : rD a b = a % b := if_pos hbp
         rw [hq, hr]
         refine ⟨false, by show some (decide (b < 0)) = _; rw [decide_eq_false hbn], ?_⟩
         by_cases hn : a < 0
         · obtain ⟨e1, e2⟩ := (Int.ediv_emod_unique hbp (a := a) (r := b + (-((-a - 1) % b) - 1)) (q := -((-a - 1) / b) - 1)).mpr (by
             have h1 := Int.emod_add_mul_ediv (-a - 1) b
             have h2 := Int.emod_nonneg (-a - 1) (show b ≠ 0 by omega)
             have h3 := Int.emod_lt_of_pos (-a - 1) hbp
             have h4 : b * (-((-a - 1) / b) - 1) = -(b * ((-a - 1) / b)) - b := by rw [Int.mul_sub, Int.mul_neg, Int.mul_one]
             omega)
           refine ⟨true, by show some (decide (a < 0)) = _; rw [decide_eq_true hn], ?_⟩
           refine ⟨.p (.tup [.int ((-a - 1) / b), .int ((-a - 1) % b)]), _, _, cApp_of (vs := [.p (.int (-a - 1)), .p (.int b)]) (cCons_of (lift1_of (a := .int a) rfl rfl) rfl) (opF_of rfl ?_), rfl, rfl, ?_⟩
           · (delta op1; dsimp only); exact if_pos (by omega)
           · refine ⟨.p (.tup [.int (a / b), .int (a % b)]), two_tup (lift1_of (a := .int ((-a - 1) / b)) rfl ?_) (lift2_of (a := .int b) (b := .int (-((-a - 1) % b) - 1)) rfl (lift1_of (a := .int ((-a - 1) % b)) rfl rfl) ?_), rfl⟩
             · rw [e1]; rfl
             · rw [e2]; rfl
         · refine ⟨false, by show some (decide (a < 0)) = _; rw [decide_eq_false hn], ?_⟩
           refine ⟨.p (.tup [.int (a / b), .int (a % b)]), cApp_of (vs := [.p (.int a), .p (.int b)]) rfl (opF_of rfl ?_), rfl⟩
           (delta opP; dsimp only); exact if_pos (by omega)
end Mine
end
section
namespace Mine
theorem dvd_of_mul {a b c : Int} (h : a ∣ b * c) (g : Int.gcd a b = 1) : a ∣ c := by
 have h1 := Int.natAbs_dvd_natAbs.mpr h
 rw [Int.natAbs_mul] at h1
 exact Int.natAbs_dvd_natAbs.mp (Nat.Coprime.dvd_of_dvd_mul_left g h1)
structure Iv (N R r0 s0 t0 r1 s1 t1 u0 u1 e : Int) : Prop where
 h0 : r0 = s0 * N + t0 * R
 h1 : r1 = s1 * N + t1 * R
 d : (s0 * t1 - s1 * t0) * (s0 * t1 - s1 * t0) = 1
 n1 : 0 ≤ r1
 lt : r1 < r0
 ee : e * e = 1
 et0 : t0 = -(e * u0)
 et1 : t1 = e * u1
 u0n : 0 ≤ u0
 u01 : u0 ≤ u1
 u1p : 1 ≤ u1
 sum : u1 * r0 + u0 * r1 = N
theorem Iv.start {N R : Int} (h : 0 ≤ R) (hl : R < N) : Iv N R N 1 0 R 0 1 0 1 1 :=
 ⟨by lia, by lia, by decide, h, hl, by decide, by decide, by decide, by decide, by decide, by decide, by lia⟩
theorem Iv.next {N R r0 s0 t0 r1 s1 t1 u0 u1 e : Int} (x : Iv N R r0 s0 t0 r1 s1 t1 u0 u1 e) (hp : 0 < r1) :
   Iv N R r1 s1 t1 (r0 % r1) (s0 - r0 / r1 * s1) (t0 - r0 / r1 * t1) u1 (u0 + r0 / r1 * u1) (-e) ∧ 1 ≤ r0 / r1 ∧ u1 ≤ u0 + r0 / r1 * u1 := by
 have hq : 1 ≤ r0 / r1 := (Int.le_ediv_iff_mul_le hp).mpr (by have := x.lt; lia)
 have hm : r0 % r1 = r0 - r0 / r1 * r1 := by have := Int.emod_add_mul_ediv r0 r1; grind
 have hn := Int.emod_nonneg r0 (Int.ne_of_gt hp)
 have hl := Int.emod_lt_of_pos r0 hp
 have hu : u1 ≤ r0 / r1 * u1 := by
   have := imr hq (show 0 ≤ u1 by have := x.u1p; exact q1 ‹_›)
   lia
 obtain ⟨h0, h1, d, n1, lt, ee, et0, et1, u0n, u01, u1p, sum⟩ := x
 generalize hqq : r0 / r1 = q at *
 refine ⟨⟨h1, ?_, ?_, hn, hl, by grind, by grind, by grind, by exact q1 ‹_›, by lia, by lia, ?_⟩, hq, by lia⟩
 · rw [hm]; grind
 · grind
 · rw [hm]; grind
structure Pr where
 r0 : Int
 s0 : Int
 t0 : Int
 r1 : Int
 s1 : Int
 t1 : Int
noncomputable def Pr.nx (p : Pr) : Pr := ⟨p.r1, p.s1, p.t1, p.r0 % p.r1, p.s0 - p.r0 / p.r1 * p.s1, p.t0 - p.r0 / p.r1 * p.t1⟩
noncomputable def Ev (N R : Int) : Nat → Pr
 | 0 => ⟨N, 1, 0, R, 0, 1⟩
 | i + 1 => (Ev N R i).nx
noncomputable def er (N R : Int) (i : Nat) : Int := (Ev N R i).r0
noncomputable def et (N R : Int) (i : Nat) : Int := (Ev N R i).t0
noncomputable def es (N R : Int) (i : Nat) : Int := (Ev N R i).s0
section
variable {N R : Int}
theorem ev_inv (h : 0 ≤ R) (hl : R < N) : ∀ i : Nat, (∀ k, k ≤ i → 0 < er N R k) → ∃ u0 u1 e, Iv N R (er N R i) (es N R i) (et N R i) (er N R (i + 1)) (es N R (i + 1)) (et N R (i + 1)) u0 u1 e ∧ u0 = ((et N R i).natAbs : Int) ∧ u1 = ((et N R (i + 1)).natAbs : Int) := by
 have abs_e : ∀ {e u t : Int}, e * e = 1 → 0 ≤ u → (t = e * u ∨ t = -(e * u)) → u = (t.natAbs : Int) := by
   intro e u t he hu ht
   have : e = 1 ∨ e = -1 := by
     have h1 : (e - 1) * (e + 1) = 0 := by grind
     rcases Int.mul_eq_zero.mp h1 with h | h <;> lia
   rcases this with rfl | rfl <;> rcases ht with rfl | rfl <;> lia
 intro i
 induction i with
 | zero =>
   intro _
   exact ⟨0, 1, 1, Iv.start h hl, rfl, rfl⟩
 | succ i ih =>
   intro hk
   obtain ⟨u0, u1, e, x, e0, e1⟩ := ih fun k hk' => hk k (Nat.le_succ_of_le hk')
   obtain ⟨y, hq, _⟩ := x.next (hk (i + 1) (Nat.le_refl _))
   refine ⟨_, _, _, y, e1, ?_⟩
   have y' := y.et1
   exact abs_e y.ee (by have := y.u01; have := y.u0n; exact q4 ‹_› ‹_›) (.inl y')
structure Last (N R : Int) (L : Nat) : Prop where
 zero : er N R L = 0
 pos : ∀ k, k < L → 0 < er N R k
theorem er_lt (h : 0 ≤ R) (hl : R < N) {i : Nat} (hk : ∀ k, k ≤ i → 0 < er N R k) : er N R (i + 1) < er N R i ∧ 0 ≤ er N R (i + 1) := by
 obtain ⟨u0, u1, e, x, _⟩ := ev_inv h hl i hk
 exact ⟨x.lt, x.n1⟩
theorem er_half (h : 0 ≤ R) (hl : R < N) {i : Nat} (hk : ∀ k, k ≤ i + 1 → 0 < er N R k) : 2 * er N R (i + 2) < er N R i := by
 have h1 := er_lt h hl (i := i) fun k hk' => hk k (by exact m6 ‹_›)
 have h2 := er_lt h hl (i := i + 1) hk
 have hp := hk (i + 1) (Nat.le_refl _)
 have e : er N R (i + 2) = er N R i % er N R (i + 1) := rfl
 have hm := Int.emod_add_mul_ediv (er N R i) (er N R (i + 1))
 have hq : 1 ≤ er N R i / er N R (i + 1) := (Int.le_ediv_iff_mul_le hp).mpr (by lia)
 have := iml hq (Int.le_of_lt hp)
 rw [e]
 have h3 : er N R i % er N R (i + 1) < er N R (i + 1) := Int.emod_lt_of_pos _ hp
 lia
theorem er_pow (h : 0 ≤ R) (hl : R < N) : ∀ k : Nat, (∀ i, i ≤ 2 * k → 0 < er N R i) → 2 ^ k * er N R (2 * k) ≤ N := by
 intro k
 induction k with
 | zero => intro _; show 1 * N ≤ N; lia
 | succ k ih =>
   intro hk
   have h1 := ih fun i hi => hk i (by lia)
   have h2 := er_half h hl (i := 2 * k) fun i hi => hk i (by exact m6 ‹_›)
   have e : 2 * (k + 1) = 2 * k + 2 := by lia
   rw [e]
   have h3 : (0 : Int) < 2 ^ k := Int.pow_pos (by decide)
   have h4 : 2 ^ k * (2 * er N R (2 * k + 2)) ≤ 2 ^ k * er N R (2 * k) := iml (Int.le_of_lt h2) (Int.le_of_lt h3)
   have h5 : (2 : Int) ^ (k + 1) = 2 ^ k * 2 := Int.pow_succ ..
   rw [h5]
   grind
theorem last_ex (h : 0 ≤ R) (hl : R < N) {b : Nat} (hb : N < 2 ^ b) : ∃ L, L ≤ 2 * b ∧ Last N R L := by
 have key : ∀ n : Nat, (∃ L, L ≤ n ∧ Last N R L) ∨ ∀ i, i ≤ n → 0 < er N R i := by
   intro n
   induction n with
   | zero => exact .inr fun i hi => by rw [Nat.le_zero.mp hi]; show 0 < N; exact q3 ‹_› ‹_›
   | succ n ih =>
     rcases ih with ⟨L, hL, x⟩ | hp
     · exact .inl ⟨L, by exact m6 ‹_›, x⟩
     · have h1 := (er_lt h hl hp).2
       by_cases hz : er N R (n + 1) = 0
       · exact .inl ⟨n + 1, Nat.le_refl _, hz, fun k hk => hp k (by lia)⟩
       · refine .inr fun i hi => ?_
         by_cases he : i = n + 1
         · rw [he]; lia
         · exact hp i (by lia)
 rcases key (2 * b) with h' | hp
 · exact h'
 · have h1 := er_pow h hl b hp
   have h2 := hp (2 * b) (Nat.le_refl _)
   have h3 : (0 : Int) < 2 ^ b := Int.pow_pos (by decide)
   have h4 : 2 ^ b * 1 ≤ 2 ^ b * er N R (2 * b) := iml h2 (Int.le_of_lt h3)
   lia
theorem er_mono (h : 0 ≤ R) (hl : R < N) {L : Nat} (x : Last N R L) : ∀ {i j : Nat}, i < j → j ≤ L → er N R j < er N R i := by
 intro i j hij
 induction j with
 | zero => lia
 | succ j ih =>
   intro hj
   have h1 := (er_lt h hl (i := j) fun k hk => x.pos k (by exact n6 ‹_› ‹_›)).1
   by_cases e : i = j
   · rw [e]; exact h1
   · have := ih (by lia) (by exact n1 ‹_›); lia
theorem et_mono (h : 0 ≤ R) (hl : R < N) {L : Nat} (x : Last N R L) : ∀ {i j : Nat}, i ≤ j → j ≤ L → (et N R i).natAbs ≤ (et N R j).natAbs := by
 intro i j hij
 induction j with
 | zero => intro _; rw [Nat.le_zero.mp hij]; exact Nat.le_refl _
 | succ j ih =>
   intro hj
   obtain ⟨u0, u1, e, y, e0, e1⟩ := ev_inv h hl j fun k hk => x.pos k (by exact n6 ‹_› ‹_›)
   have h1 : (et N R j).natAbs ≤ (et N R (j + 1)).natAbs := by have := y.u01; lia
   by_cases e : i = j + 1
   · rw [e]; exact Nat.le_refl _
   · exact Nat.le_trans (ih (by lia) (by exact n1 ‹_›)) h1
theorem place_of (h : 0 ≤ R) (hl : R < N) {L : Nat} (x : Last N R L) {E B W m C y : Int} (hE : 1 ≤ E) (hEW : E ≤ W) (hB : 1 ≤ B) (hm1 : -(B - 1) ≤ m) (hm2 : m ≤ B - 1) (hN : 4 * W * W * B ≤ N) (hC : C * E = N) (hy : R - m = C * y) (hg : Int.gcd y E = 1) :
   ∃ j, j ≤ L ∧ 1 ≤ j ∧ (∀ i, i < j → 2 * B * W ≤ er N R i) ∧ (∀ i, j ≤ i → i ≤ L → er N R i < 2 * B * W) ∧ er N R j = m * et N R j ∧ ((et N R j).natAbs : Int) = E ∧ (∀ i, i ≤ j → ((et N R i).natAbs : Int) ≤ W) ∧ (∀ i, j < i → i ≤ L → W < ((et N R i).natAbs : Int)) := by
 have hW : 1 ≤ W := by lia
 have hBW : 1 ≤ B * W := by have := imr hB (show 0 ≤ W by exact q1 ‹_›); lia
 have hbw2 : 2 * B * W = 2 * (B * W) := by grind
 have ex : ∃ j, j ≤ L ∧ er N R j < 2 * B * W ∧ ∀ i, i < j → 2 * B * W ≤ er N R i := by
   have key : ∀ n, n ≤ L → (∃ j, j ≤ n ∧ er N R j < 2 * B * W ∧ ∀ i, i < j → 2 * B * W ≤ er N R i) ∨ ∀ i, i ≤ n → 2 * B * W ≤ er N R i := by
     intro n
     induction n with
     | zero =>
       intro _
       by_cases h0 : er N R 0 < 2 * B * W
       · exact .inl ⟨0, Nat.le_refl _, h0, fun i hi => absurd hi (Nat.not_lt_zero _)⟩
       · exact .inr fun i hi => by rw [Nat.le_zero.mp hi]; exact r5 ‹_›
     | succ n ih =>
       intro hn
       rcases ih (by exact n1 ‹_›) with ⟨j, h1, h2, h3⟩ | hp
       · exact .inl ⟨j, by exact m6 ‹_›, h2, h3⟩
       · by_cases h0 : er N R (n + 1) < 2 * B * W
         · exact .inl ⟨n + 1, Nat.le_refl _, h0, fun i hi => hp i (by lia)⟩
         · refine .inr fun i hi => ?_
           by_cases e : i = n + 1
           · rw [e]; exact r5 ‹_›
           · exact hp i (by lia)
   rcases key L (Nat.le_refl _) with h' | hp
   · exact h'
   · have := hp L (Nat.le_refl _); rw [x.zero] at this; lia
 obtain ⟨j, hj, hsm, hbig⟩ := ex
 have hWB : W * B ≤ W * W * B := by
   have h1 : W * 1 ≤ W * W := iml hW (by exact q1 ‹_›)
   have h2 : W * 1 * B ≤ W * W * B := imr h1 (by exact q1 ‹_›)
   have e : W * 1 * B = W * B := by grind
   lia
 have hcomm : W * B = B * W := Int.mul_comm ..
 have h4 : 4 * W * W * B = 4 * (W * W * B) := by grind
 have hj1 : 1 ≤ j := by
   by_cases e : j = 0
   · subst e
     have : er N R 0 = N := rfl
     rw [this] at hsm; lia
   · exact p3 ‹_›
 obtain ⟨u0, u1, e, z, e0, e1⟩ := ev_inv h hl (j - 1) fun k hk => x.pos k (by lia)
 have hjj : j - 1 + 1 = j := by lia
 rw [hjj] at z e1
 have hprev := hbig (j - 1) (by lia)
 have hu : u1 * (2 * B * W) ≤ N := by
   have h1 : u1 * (2 * B * W) ≤ u1 * er N R (j - 1) := iml hprev (by have := z.u1p; exact q1 ‹_›)
   have h2 : 0 ≤ u0 * er N R j := Int.mul_nonneg z.u0n z.n1
   have := z.sum
   lia
 have hr : er N R j = es N R j * N + et N R j * R := z.h1
 have hEt : et N R j = e * u1 := z.et1
 have hu1 := z.u1p
 have hn := z.n1
 have hD : E * (er N R j - m * et N R j) = N * (E * es N R j + et N R j * y) := by
   have e1 : er N R j - m * et N R j = es N R j * N + et N R j * (R - m) := by rw [hr]; grind
   rw [e1, hy, ← hC]; grind
 have hee : e = 1 ∨ e = -1 := by
   have h1 : (e - 1) * (e + 1) = 0 := by have := z.ee; grind
   rcases Int.mul_eq_zero.mp h1 with h | h <;> lia
 have hmt1 : -((B - 1) * u1) ≤ m * et N R j ∧ m * et N R j ≤ (B - 1) * u1 := by
   have a1 : m * u1 ≤ (B - 1) * u1 := imr hm2 (by exact q1 ‹_›)
   have a2 : -(B - 1) * u1 ≤ m * u1 := imr hm1 (by exact q1 ‹_›)
   rcases hee with rfl | rfl
   · rw [hEt]
     have e1 : m * (1 * u1) = m * u1 := by grind
     have e2 : -(B - 1) * u1 = -((B - 1) * u1) := by grind
     lia
   · rw [hEt]
     have e1 : m * (-1 * u1) = -(m * u1) := by grind
     have e2 : -(B - 1) * u1 = -((B - 1) * u1) := by grind
     lia
 have hb : E * (er N R j - m * et N R j) < N ∧ -N < E * (er N R j - m * et N R j) := by
   have k1 : 2 * (W * (B * u1)) ≤ N := by
     have e1 : u1 * (2 * B * W) = 2 * (W * (B * u1)) := by grind
     lia
   have k2 : W * (2 * B * W) * 2 ≤ N := by
     have e1 : W * (2 * B * W) * 2 = 4 * W * W * B := by grind
     lia
   have f1 : er N R j - m * et N R j ≤ (2 * B * W - 1) + (B - 1) * u1 := by lia
   have f2 : -((2 * B * W - 1) + (B - 1) * u1) ≤ er N R j - m * et N R j := by
     have : 0 ≤ 2 * B * W - 1 := by lia
     lia
   have hnn : 0 ≤ (2 * B * W - 1) + (B - 1) * u1 := by
     have : 0 ≤ (B - 1) * u1 := Int.mul_nonneg (by lia) (by exact q1 ‹_›)
     lia
   have g1 : E * ((2 * B * W - 1) + (B - 1) * u1) ≤ W * ((2 * B * W - 1) + (B - 1) * u1) := imr hEW hnn
   have g2 : W * ((2 * B * W - 1) + (B - 1) * u1) = W * (2 * B * W) - W + W * (B * u1) - W * u1 := by grind
   have g3 : 1 ≤ W * u1 := by have := imr hW (show 0 ≤ u1 by exact q1 ‹_›); lia
   have g4 := iml f1 (show 0 ≤ E by exact q1 ‹_›)
   have g5 := iml f2 (show 0 ≤ E by exact q1 ‹_›)
   have g6 : E * -((2 * B * W - 1) + (B - 1) * u1) = -(E * ((2 * B * W - 1) + (B - 1) * u1)) := Int.mul_neg ..
   lia
 have hNp : 0 < N := by lia
 have hz : E * es N R j + et N R j * y = 0 := by
   generalize hX : E * es N R j + et N R j * y = X at hD
   rw [hD] at hb
   by_cases h1 : 1 ≤ X
   · have := iml h1 (Int.le_of_lt hNp); lia
   · by_cases h2 : X ≤ -1
     · have := iml h2 (Int.le_of_lt hNp); lia
     · lia
 have hrm : er N R j = m * et N R j := by
   rw [hz, Int.mul_zero] at hD
   rcases Int.mul_eq_zero.mp hD with h' | h'
   · lia
   · lia
 have hdt : ∀ c : Int, c ∣ es N R j → c ∣ et N R j → c ∣ 1 := by
   intro c ⟨a, ha⟩ ⟨b, hb'⟩
   have := z.d
   rw [ha, hb'] at this
   refine ⟨(es N R (j - 1) * b - a * et N R (j - 1)) * (es N R (j - 1) * (c * b) - c * a * et N R (j - 1)), ?_⟩
   rw [← this]; grind
 have hE1 : E ∣ et N R j := by
   have h1 : E ∣ y * et N R j := ⟨-es N R j, by grind⟩
   exact dvd_of_mul h1 (by rw [Int.gcd_comm]; exact hg)
 have hE2 : et N R j ∣ E := by
   have h1 : et N R j ∣ es N R j * E := ⟨-y, by grind⟩
   refine dvd_of_mul h1 ?_
   rw [Int.gcd_eq_one_iff]
   intro c h1 h2
   exact hdt c h2 h1
 have hEa : ((et N R j).natAbs : Int) = E := by
   have h1 := Int.natAbs_dvd_natAbs.mpr hE1
   have h2 := Int.natAbs_dvd_natAbs.mpr hE2
   have := Nat.dvd_antisymm h2 h1
   lia
 refine ⟨j, hj, hj1, hbig, fun i hi hiL => ?_, hrm, hEa, fun i hi => ?_, fun i hi hiL => ?_⟩
 · by_cases e : i = j
   · rw [e]; exact hsm
   · have := er_mono h hl x (i := j) (j := i) (by lia) hiL; lia
 · have := et_mono h hl x hi hj; lia
 · have hjL : j < L := by lia
   obtain ⟨v0, v1, f, zz, f0, f1⟩ := ev_inv h hl j fun k hk => x.pos k (by lia)
   have hsum := zz.sum
   have hlt := zz.lt
   have hp := x.pos j hjL
   have k0 : v0 = E := by lia
   have k1 : N < (v1 + v0) * er N R j := by
     have a1 : v0 * er N R (j + 1) < v0 * er N R j := Int.mul_lt_mul_of_pos_left hlt (by lia)
     have a2 : (v1 + v0) * er N R j = v1 * er N R j + v0 * er N R j := Int.add_mul ..
     lia
   have k2 : 2 * W < v1 + v0 := by
     by_cases c : 2 * W < v1 + v0
     · exact c
     · have a1 : (v1 + v0) * er N R j ≤ 2 * W * er N R j := imr (by lia) (Int.le_of_lt hp)
       have a2 : 2 * W * er N R j ≤ 2 * W * (2 * B * W) := iml (Int.le_of_lt hsm) (by lia)
       have a3 : 2 * W * (2 * B * W) = 4 * W * W * B := by grind
       lia
   have k3 := et_mono h hl x (i := j + 1) (j := i) (by lia) hiL
   lia
end
end Mine
end
section
open PySem PySem.W PySem.Calls PyProof.Rows
namespace Mine
noncomputable def rowP (q : Int × Int) : P := .tup [.int q.1, .int q.2]
noncomputable def runQ (g l : Int) (n : Nat) : List (Int × Int) := (List.range n).map fun i => (er g l i, et g l i)
theorem runQ_len {g l : Int} {n : Nat} : (runQ g l n).length = n := by simp [runQ]
theorem runQ_get {g l : Int} {n i : Nat} (h : i < n) : (runQ g l n)[i]? = some (er g l i, et g l i) := by simp [runQ, h]
theorem runQ_succ {g l : Int} {n : Nat} : runQ g l (n + 1) = runQ g l n ++ [(er g l n, et g l n)] := by simp [runQ, List.range_succ]
noncomputable def lastI (g l : Int) : Nat := ((List.range 101).find? fun i => er g l i == 0).getD 0
theorem lastI_ok {g l : Int} (h0 : 0 ≤ l) (h1 : l < g) (h2 : g < 2 ^ 40) : Last g l (lastI g l) ∧ lastI g l ≤ 80 := by
 obtain ⟨L, hL, x⟩ := last_ex h0 h1 (b := 40) h2
 have : (List.range 101).find? (fun i => er g l i == 0) = some L := by
   rw [List.find?_range_eq_some]
   refine ⟨by simp [x.zero], by simp; exact m1 ‹_› (by decide), fun j hj => ?_⟩
   have := x.pos j hj
   simp; exact q7 ‹_›
 have e : lastI g l = L := by unfold lastI; rw [this]; rfl
 rw [e]; exact ⟨x, by assumption⟩
noncomputable def opR : List P → Option P
 | [.int g, .int l] => if 0 ≤ l ∧ l < g ∧ g < 2 ^ 40 then some (.lst ((runQ g l (lastI g l + 1)).map rowP)) else none
 | _ => none
theorem idx_neg {k n : Nat} (h1 : 1 ≤ k) (h2 : k ≤ n) : seqIndex? (-(k : Int)) n = some (n - k) := by
 dsimp only [seqIndex?]
 simp only [if_pos (show -(k : Int) < 0 by lia)]
 have e1 : (decide (0 ≤ -(k : Int) + (n : Int)) && decide (-(k : Int) + (n : Int) < (n : Int))) = true := by simp; lia
 first
   | (rw [if_pos e1]; congr 1; lia)
   | (simp; lia)
theorem idx_pos {k n : Nat} (h : k < n) : seqIndex? (k : Int) n = some k := by
 dsimp only [seqIndex?]
 simp only [if_neg (show ¬ (k : Int) < 0 by lia)]
 have e1 : (decide (0 ≤ (k : Int)) && decide ((k : Int) < (n : Int))) = true := by simp; assumption
 first
   | (rw [if_pos e1]; congr 1)
   | (simp; lia)
theorem sub_own {f : St → Option V} {σ : St} {i k : Nat} {xs : List P} {r : P} (hf : f σ = some (.own i)) (hx : σ.own[i]? = some xs) (h1 : 1 ≤ k) (h2 : k ≤ xs.length) (hk : k ≤ 1000) (hr : xs[xs.length - k]? = some r) : cSub f (lift1 negP (cK (.int (k : Int)))) σ = some (.p r) := by
 refine cSub_of hf (lift1_of (a := .int (k : Int)) rfl rfl) (by lia) ?_
 show (match seqOf σ (.own i) with | some xs => (seqIndex? (-(k : Int)) xs.length).bind (xs[·]?) | none => none) = _
 rw [show seqOf σ (.own i) = some xs from hx]
 simp only [idx_neg h1 h2, Option.bind_some, hr]
theorem sub_tup0 {f : St → Option V} {σ : St} {a b : P} (hf : f σ = some (.p (.tup [a, b]))) : cSub f (cK (.int 0)) σ = some (.p a) := cSub_of hf rfl (by decide) rfl
theorem sub_tup1 {f : St → Option V} {σ : St} {a b : P} (hf : f σ = some (.p (.tup [a, b]))) : cSub f (cK (.int 1)) σ = some (.p b) := cSub_of hf rfl (by decide) rfl
noncomputable def stR (g l : Int) (v3 v4 v5 : Option V) (rest : List (Option V)) (xs : List P) : St := ⟨some (.p (.int g)) :: some (.p (.int l)) :: some (.own 0) :: v3 :: v4 :: v5 :: rest, [xs], Ky.no⟩
theorem rows_get {g l : Int} {n i : Nat} (h : i < n) : ((runQ g l n).map rowP)[i]? = some (rowP (er g l i, et g l i)) := by rw [List.getElem?_map, runQ_get h]; rfl
theorem rows_len {g l : Int} {n : Nat} : ((runQ g l n).map rowP).length = n := by rw [List.length_map, runQ_len]
theorem run_rows {g l : Int} {v3 v4 v5 : Option V} {rest : List (Option V)} {i : Nat} :
   (cSub (cV 2) (lift1 negP (cK (.int 1)))) (stR g l v3 v4 v5 rest ((runQ g l (i + 2)).map rowP)) = some (.p (rowP (er g l (i + 1), et g l (i + 1)))) ∧
   (cSub (cV 2) (lift1 negP (cK (.int 2)))) (stR g l v3 v4 v5 rest ((runQ g l (i + 2)).map rowP)) = some (.p (rowP (er g l i, et g l i))) :=
 ⟨sub_own (k := 1) rfl rfl (by decide) (by rw [rows_len]; lia) (by decide) (by rw [rows_len]; exact rows_get (i := i + 1) (by lia)),
  sub_own (k := 2) rfl rfl (by decide) (by rw [rows_len]; lia) (by decide) (by rw [rows_len]; exact rows_get (i := i) (by lia))⟩
theorem run_turns {g l : Int} {L : Nat} {rest : List (Option V)} {Po : Post} (h0 : 0 ≤ l) (h1 : l < g) (h2 : g < 2 ^ 40) (x : Last g l L) (hL : L ≤ 100) : ∀ (n : Nat) (a : Int) (i : Nat) (v3 v4 v5 : Option V), i + 1 ≤ L → L ≤ i + 1 + n →
   (∀ v3 v4 v5, Po .next (stR g l v3 v4 v5 rest ((runQ g l (L + 1)).map rowP))) →
   wTurns (fun zz => True) (fun σ v => some (σ.put 3 v)) (wSeq (wIf (cB (lift2 eqP (cSub (cSub (cV 2) (lift1 negP (cK (.int 1)))) (cK (.int 0))) (cK (.int 0)))) (wSeq wBrk wNil) wNil) (wSeq (wUnp [4, 5] (cApp (opF opD) (cCons (cSub (cSub (cV 2) (lift1 negP (cK (.int 2)))) (cK (.int 0))) (cCons (cSub (cSub (cV 2) (lift1 negP (cK (.int 1)))) (cK (.int 0))) cNil)))) (wSeq (wApp (cV 2) (xOf (cTup (cCons (cV 5) (cCons (lift2 subP (cSub (cSub (cV 2) (lift1 negP (cK (.int 2)))) (cK (.int 1))) (lift2 mulP (cV 4) (cSub (cSub (cV 2) (lift1 negP (cK (.int 1)))) (cK (.int 1))))) cNil))))) wNil)))
     (rangeP a n) (stR g l v3 v4 v5 rest ((runQ g l (i + 2)).map rowP)) Po
 | 0, a, i, v3, v4, v5, hi, hn, h => by
   have e : L + 1 = i + 2 := by lia
   have := h v3 v4 v5
   rw [e] at this
   exact this
 | n + 1, a, i, v3, v4, v5, hi, hn, h => by
   refine ⟨stR g l (some (.p (.int a))) v4 v5 rest ((runQ g l (i + 2)).map rowP), rfl, ?_⟩
   obtain ⟨q1, q2⟩ := run_rows (g := g) (l := l) (v3 := some (.p (.int a))) (v4 := v4) (v5 := v5) (rest := rest) (i := i)
   by_cases hz : er g l (i + 1) = 0
   · have e : L = i + 1 := by
       by_cases h' : i + 1 < L
       · have := x.pos (i + 1) h'; lia
       · lia
     refine ⟨true, cB_of (lift2_of (a := .int (er g l (i + 1))) (b := .int 0) (sub_tup0 q1) rfl ?_), ?_⟩
     · (delta eqP; dsimp only); rw [hz]; rfl
     · have := h (some (.p (.int a))) v4 v5
       rw [show L + 1 = i + 2 by lia] at this
       exact this
   · have hlt : i + 1 < L := by
       by_cases h' : i + 1 = L
       · rw [h'] at hz; exact absurd x.zero hz
       · lia
     have p1 := x.pos (i + 1) hlt
     have p0 := x.pos i (by assumption)
     have m1 := er_mono h0 h1 x (i := i) (j := i + 1) (by lia) (by assumption)
     have mg : er g l i ≤ g := by
       rcases Nat.eq_zero_or_pos i with h' | h'
       · rw [h']; exact Int.le_refl _
       · have := er_mono h0 h1 x (i := 0) (j := i) h' (by exact n1 ‹_›)
         have e : er g l 0 = g := rfl
         lia
     have hq : er g l i / er g l (i + 1) ≤ er g l i := Int.ediv_le_self _ (by exact q5 ‹_›)
     have hq0 : 0 ≤ er g l i / er g l (i + 1) := Int.ediv_nonneg (by exact q5 ‹_›) (by exact q5 ‹_›)
     refine ⟨false, cB_of (lift2_of (a := .int (er g l (i + 1))) (b := .int 0) (sub_tup0 q1) rfl ?_), ?_⟩
     · (delta eqP; dsimp only); rw [eqb_f hz]
     · refine ⟨.p (.tup [.int (er g l i / er g l (i + 1)), .int (er g l (i + 2))]), [.int (er g l i / er g l (i + 1)), .int (er g l (i + 2))], stR g l (some (.p (.int a))) (some (.p (.int (er g l i / er g l (i + 1))))) (some (.p (.int (er g l (i + 2))))) rest ((runQ g l (i + 2)).map rowP), ?_, rfl, rfl, ?_⟩
       · refine cApp_of (vs := [.p (.int (er g l i)), .p (.int (er g l (i + 1)))]) (cCons_of (sub_tup0 q2) (cCons_of (sub_tup0 q1) rfl)) (opF_of rfl ?_)
         have e1 : qD (er g l i) (er g l (i + 1)) = er g l i / er g l (i + 1) := if_pos p1
         have e2 : rD (er g l i) (er g l (i + 1)) = er g l (i + 2) := if_pos p1
         (delta opD; dsimp only)
         rw [if_pos (by exact ⟨na (by lia), by lia, na (by lia)⟩), e1, e2]
       · obtain ⟨q1, q2⟩ := run_rows (g := g) (l := l) (v3 := some (.p (.int a))) (v4 := some (.p (.int (er g l i / er g l (i + 1))))) (v5 := some (.p (.int (er g l (i + 2))))) (rest := rest) (i := i)
         refine ⟨0, (runQ g l (i + 2)).map rowP, rowP (er g l (i + 2), et g l (i + 2)), stR g l (some (.p (.int a))) (some (.p (.int (er g l i / er g l (i + 1))))) (some (.p (.int (er g l (i + 2))))) rest ((runQ g l (i + 2)).map rowP), rfl, ?_, rfl, by rw [rows_len]; lia, trivial, ?_⟩
         · unfold xOf
           rw [two_tup (a := .int (er g l (i + 2))) (b := .int (et g l (i + 2))) rfl (lift2_of (a := .int (et g l i)) (b := .int (er g l i / er g l (i + 1) * et g l (i + 1))) (sub_tup1 q2) (lift2_of (a := .int (er g l i / er g l (i + 1))) (b := .int (et g l (i + 1))) rfl (sub_tup1 q1) ?_) ?_)]
           · rfl
           · (delta mulP; dsimp only); rw [if_pos (by exact na (by lia))]
           · rfl
         · have e : (runQ g l (i + 2)).map rowP ++ [rowP (er g l (i + 2), et g l (i + 2))] = (runQ g l (i + 1 + 2)).map rowP := by
             rw [show i + 1 + 2 = i + 2 + 1 by lia, runQ_succ (n := i + 2), List.map_append]; rfl
           have := run_turns h0 h1 h2 x hL n (a + 1) (i + 1) (some (.p (.int a))) (some (.p (.int (er g l i / er g l (i + 1))))) (some (.p (.int (er g l (i + 2))))) (by assumption) (by lia) h
           rw [← e] at this
           exact this
theorem fn_R : Fn 15 139 opR := fn_of_d (d_law_run (rm := 14) fn_D) fun xs r h => by
 obtain ⟨g, l, rfl, h⟩ := ii_inv h
 obtain ⟨hc, h⟩ := ifS h
 ·
   ·
     obtain ⟨h0, h1, h2⟩ := hc
     obtain rfl := sij h
     obtain ⟨x, hL⟩ := lastI_ok h0 h1 h2
     have hL1 : 1 ≤ lastI g l := by
       rcases Nat.eq_zero_or_pos (lastI g l) with h' | h'
       · have := x.zero; rw [h'] at this
         have e : er g l 0 = g := rfl
         lia
       · exact h'
     refine ⟨rfl, (runQ g l 2).map rowP, rfl, 99, rfl, by decide, ?_⟩
     refine run_turns (rest := [none, none]) h0 h1 h2 x (by exact n9 ‹_› (by decide)) 99 0 0 none none none (by assumption) (by exact n9 ‹_› (by decide)) fun v3 v4 v5 => ?_
     refine ⟨.own 0, rfl, ?_⟩
     show (some ((runQ g l (lastI g l + 1)).map rowP)).bind (fun xs => if noLsts xs = true then some (P.lst xs) else none) = _
     have : noLsts ((runQ g l (lastI g l + 1)).map rowP) = true := by
       generalize runQ g l (lastI g l + 1) = q
       induction q with
       | nil => rfl
       | cons a q ih => simp only [List.map_cons, noLsts, ih, Bool.and_true]; rfl
     rw [Option.bind_some, if_pos this]
noncomputable def cnt (ks : List Int) (x : Int) : Nat := ks.countP fun k => decide (k ≤ x)
theorem cnt_iff : ∀ {ks : List Int} {x : Int} {i : Nat} {k : Int}, ks.Pairwise (· ≤ ·) → ks[i]? = some k → (k ≤ x ↔ i < cnt ks x)
 | [], _, _, _, _, h => by simp at h
 | a :: ks, x, 0, k, hp, h => by
   simp only [List.getElem?_cons_zero, Option.some.injEq] at h
   subst h
   obtain ⟨h1, h2⟩ := List.pairwise_cons.mp hp
   unfold cnt
   rw [List.countP_cons]
   constructor
   · intro h; simp [h]
   · intro h
     by_cases ha : a ≤ x
     · exact ha
     · have : ks.countP (fun k => decide (k ≤ x)) = 0 := by
         rw [List.countP_eq_zero]
         intro b hb
         have := h1 b hb
         simp; lia
       rw [this] at h; simp [ha] at h
 | a :: ks, x, i + 1, k, hp, h => by
   simp only [List.getElem?_cons_succ] at h
   obtain ⟨h1, h2⟩ := List.pairwise_cons.mp hp
   have ih := cnt_iff (x := x) h2 h
   have hk := h1 k (List.mem_of_getElem? h)
   unfold cnt at ih ⊢
   rw [List.countP_cons, ih]
   by_cases ha : a ≤ x
   · simp [ha]
   · have : ¬ k ≤ x := by lia
     have h0 := mt ih.mpr this
     simp [ha]; lia
theorem cnt_le {ks : List Int} {x : Int} : cnt ks x ≤ ks.length := List.countP_le_length
noncomputable def bisK (ky : Ky) (xs : List P) (x : Int) : Option P := match keysOf ky.kap xs with
 | some ks => if ks.Pairwise (· ≤ ·) ∧ ks.length ≤ 1000 ∧ ky.n ≤ 5 then some (.int (cnt ks x : Int)) else none
 | none => none
noncomputable def opB (ky : Ky) : List P → Option P
 | [.lst xs, .int x] => bisK ky xs x
 | [.lst xs, .int x, .int l, .none] => if l = 0 then bisK ky xs x else none
 | _ => none
theorem opB_hop : ∀ F n κ ps, opB ⟨F, n, κ, false, 0, fun zz zz => none⟩ ps = opB ⟨0, n, κ, false, 0, fun zz zz => none⟩ ps := fun F n κ ps => rfl
noncomputable def stB (xs : List P) (x lo hi : Int) (F : Addr) (mv : Option V) (rest : List (Option V)) (ky : Ky) : St := ⟨some (.p (.lst xs)) :: some (.p (.int x)) :: some (.p (.int lo)) :: some (.p (.int hi)) :: some (.p (.raw (.ref F))) :: mv :: rest, [], ky⟩
theorem key_of {rm : Nat} {f : St → Option V} {g : St → Option V} {σ : St} {x r : P} (hf : f σ = some (.p (.raw (.ref σ.ky.a)))) (hn : σ.ky.n ≤ rm) (hg : g σ = some (.p x)) (hk : σ.ky.kap [x] = some r) : cKey rm f (cCons g cNil) σ = some (.p r) := by
 unfold cKey
 rw [hf, cCons_of hg rfl]
 show (if σ.ky.a = σ.ky.a ∧ σ.ky.n ≤ rm then _ else _) = _
 rw [if_pos ⟨rfl, hn⟩]
 show ((some [x]).bind σ.ky.kap).map V.p = _
 rw [Option.bind_some, hk]; rfl
theorem bis_loop {rm : Nat} {ky : Ky} {xs : List P} {ks : List Int} {x : Int} {rest : List (Option V)} {Po : Post} (hrm : 5 ≤ rm) (hks : keysOf ky.kap xs = some ks) (hp : ks.Pairwise (· ≤ ·)) (hl : ks.length ≤ 1000) (hn : ky.n ≤ 5) : ∀ (n : Nat) (lo hi : Nat) (mv : Option V), hi - lo < n → lo ≤ cnt ks x → cnt ks x ≤ hi → hi ≤ ks.length →
   (∀ mv (hi : Int), Po .next (stB xs x (cnt ks x : Int) hi ky.a mv rest ky)) →
   whileW (cB (lift2 ltP (cV 2) (cV 3))) (wSeq (wSet 5 (lift2 fdivP (lift2 addP (cV 2) (cV 3)) (cK (.int 2)))) (wSeq (wIf (cB (lift2 ltP (cV 1) (cKey rm (cV 4) (cCons (cSub (cV 0) (cV 5)) cNil)))) (wSeq (wSet 3 (cV 5)) wNil) (wSeq (wSet 2 (lift2 addP (cV 5) (cK (.int 1)))) wNil)) wNil)) n (stB xs x lo hi ky.a mv rest ky) Po
 | 0, lo, hi, mv, h, _, _, _, _ => by lia
 | n + 1, lo, hi, mv, h, h1, h2, h3, hPo => by
   have hxl : ks.length = xs.length := keysOf_len hks
   by_cases hlt : lo < hi
   · refine ⟨true, ?_, ?_⟩
     · show some (decide ((lo : Int) < (hi : Int))) = _; rw [decide_eq_true (by lia)]
     · obtain ⟨M, hM⟩ : ∃ M, M = (lo + hi) / 2 := ⟨_, rfl⟩
       have hMl : M < ks.length := by lia
       obtain ⟨k, hk⟩ : ∃ k, ks[M]? = some k := ⟨_, List.getElem?_eq_getElem hMl⟩
       obtain ⟨y, hy⟩ : ∃ y, xs[M]? = some y := ⟨_, List.getElem?_eq_getElem (hxl ▸ hMl)⟩
       have hiff := cnt_iff (x := x) hp hk
       have hkap := keysOf_get hks hy hk
       have hcond : (lift2 ltP (cV 1) (cKey rm (cV 4) (cCons (cSub (cV 0) (cV 5)) cNil))) (stB xs x lo hi ky.a (some (.p (.int (M : Int)))) rest ky) = some (.p (.bool (decide (x < k)))) := by
         refine lift2_of (a := .int x) (b := .int k) rfl (key_of (x := y) rfl (Nat.le_trans hn hrm) (cSub_of (v := .p (.lst xs)) (k := (M : Int)) rfl rfl (by lia) ?_) hkap) rfl
         show (seqIndex? (M : Int) xs.length).bind (xs[·]?) = _
         rw [idx_pos (hxl ▸ hMl), Option.bind_some, hy]
       rw [if_pos rfl]
       refine ⟨.p (.int (M : Int)), ?_, ?_⟩
       · refine lift2_of (a := .int ((lo : Int) + hi)) (b := .int 2) rfl rfl ?_
         (delta fdivP; dsimp only)
         rw [if_pos (by lia), Int.fdiv_eq_ediv_of_nonneg _ (by decide)]
         have : ((lo : Int) + hi) / 2 = (M : Int) := by lia
         rw [this]
       · by_cases hxk : x < k
         · refine ⟨true, cB_of (by rw [show decide (x < k) = true from decide_eq_true hxk] at hcond; exact hcond), ?_⟩
           rw [if_pos rfl]
           refine ⟨.p (.int (M : Int)), rfl, ?_⟩
           exact bis_loop hrm hks hp hl hn n lo M _ (by lia) h1 (by lia) (by exact n1 ‹_›) hPo
         · refine ⟨false, cB_of (by rw [show decide (x < k) = false from decide_eq_false hxk] at hcond; exact hcond), ?_⟩
           rw [if_neg (by simp)]
           refine ⟨.p (.int ((M : Int) + 1)), rfl, ?_⟩
           exact bis_loop hrm hks hp hl hn n (M + 1) hi _ (by lia) (by lia) h2 h3 hPo
   · refine ⟨false, ?_, ?_⟩
     · show some (decide ((lo : Int) < (hi : Int))) = _; rw [decide_eq_false (by lia)]
     · rw [if_neg (by simp)]
       have e : lo = cnt ks x := by lia
       rw [e]
       exact hPo _ _
theorem fn_B {rm : Nat} (hrm : 5 ≤ rm) : FnKw (rm + 1) 74 opB := by
 have T66 : ∀ w, (KF w).lookup 66 = some { cls := .type "tuple", data := .seq #[.int 0 284, .none] } := at66
 refine fn_kw_d (T := 66) (t := 284) rfl T66 d_bisect_right fun ky xs r h => ?_
 have main : ∀ (l : List P) (x : Int), bisK ky l x = some r → W_bisect_right rm ⟨[some (.p (.lst l)), some (.p (.int x)), some (.p (.int 0)), some (.p .none), some (.p (.raw (.ref ky.a))), none, none, none], [], ky⟩ (Outs r) := by
   intro l x h
   unfold bisK at h
   split at h
   · rename_i ks hks
     split at h
     · rename_i hc
       obtain ⟨hp, hl, hn⟩ := hc
       obtain rfl := sij h
       have hxl : ks.length = l.length := keysOf_len hks
       refine ⟨false, rfl, true, rfl, ⟨.p (.int (ks.length : Int)), ?_, ?_⟩⟩
       · refine cApp_of (vs := [.p (.lst l)]) rfl ?_
         show (if l.length ≤ 100000 then some (P.int (l.length : Int)) else none) = _
         rw [if_pos (by lia), hxl]
       · refine ⟨false, rfl, ?_⟩
         refine ⟨ks.length + 1, bis_loop (rest := [none, none]) hrm hks hp hl hn (ks.length + 1) 0 ks.length none (by lia) (Nat.zero_le _) cnt_le (Nat.le_refl _) fun mv hi => ?_⟩
         exact ⟨.p (.int (cnt ks x : Int)), rfl, rfl⟩
     · cases h
   · cases h
 cases xs with
 | nil => exact nn h
 | cons x0 r0 =>
     cases x0 with
     | lst l =>
         cases r0 with
         | nil => exact nn h
         | cons x1 r1 =>
             cases x1 with
             | int x =>
                 cases r1 with
                 | nil => exact ⟨.inl rfl, main _ _ h⟩
                 | cons x2 r2 =>
                   cases x2 with
                   | int l2 =>
                     cases r2 with
                     | nil => exact nn h
                     | cons x3 r3 =>
                       cases x3 with
                       | none =>
                         cases r3 with
                         | nil =>
                           obtain ⟨hl, h⟩ := ifS h
                           subst hl
                           exact ⟨.inr rfl, main _ _ h⟩
                         | cons => exact nn h
                       | _ => exact nn h
                   | _ => exact nn h
             | _ => exact nn h
     | _ => exact nn h
theorem insort_of {rm rl j : Nat} {F : Addr} {g : St → Option V} {own : List (List P)} {xs : List P} {ks : List Int} {d : P} {k : Int} (hrm : 5 ≤ rm) (hrl : rl + 1 ≤ 5) (hx : own[j]? = some xs) (hks : keysOf (lamK g []) xs = some ks) (hp : ks.Pairwise (· ≤ ·)) (hl : ks.length ≤ 900) (hk : lamK g [] [d] = some (.int k)) :
   W_insort rm opB ⟨[some (.own j), some (.p d), some (.p (.int 0)), some (.p .none), some (.p (.raw (.ref F))), none], own, ⟨F, rl + 1, lamK g [], false, 0, fun _ _ => none⟩⟩ (fun fl σ' => fl = .next ∧ σ'.own = own.set j (xs.take (cnt ks k) ++ d :: xs.drop (cnt ks k))) := by
 have hxl : ks.length = xs.length := keysOf_len hks
 have hc := cnt_le (ks := ks) (x := k)
 refine ⟨false, rfl, ?_⟩
 refine ⟨.p (.int (cnt ks k : Int)), ?_, ?_⟩
 · have h1 : ((cCons (cV 0) (cCons (cKey rm (cV 4) (cCons (cV 1) cNil)) (cCons (cV 2) (cCons (cV 3) cNil)))) ⟨[some (.own j), some (.p d), some (.p (.int 0)), some (.p .none), some (.p (.raw (.ref F))), none], own, ⟨F, rl + 1, lamK g [], false, 0, fun _ _ => none⟩⟩) = some [.own j, .p (.int k), .p (.int 0), .p .none] :=
     cCons_of rfl (cCons_of (key_of (x := d) rfl (by show rl + 1 ≤ rm; exact n4 ‹_› ‹_›) rfl hk) (cCons_of rfl (cCons_of rfl rfl)))
   have h2 : toPs ⟨[some (.own j), some (.p d), some (.p (.int 0)), some (.p .none), some (.p (.raw (.ref F))), none], own, ⟨F, rl + 1, lamK g [], false, 0, fun _ _ => none⟩⟩ [.own j, .p (.int k), .p (.int 0), .p .none] = some [.lst xs, .int k, .int 0, .none] := by
     have e : toP ⟨[some (.own j), some (.p d), some (.p (.int 0)), some (.p .none), some (.p (.raw (.ref F))), none], own, ⟨F, rl + 1, lamK g [], false, 0, fun _ _ => none⟩⟩ (.own j) = some (.lst xs) := by
       show (own[j]?).map P.lst = _; rw [hx]; rfl
     unfold toPs
     rw [e]; rfl
   unfold cKwN
   rw [h1, Option.bind_some, h2]
   show (if F = F ∧ false = false then ((opB ⟨F, rl + 1, lamK g [], false, 0, fun _ _ => none⟩ [.lst xs, .int k, .int 0, .none]).map V.p) else none) = _
   rw [if_pos ⟨rfl, rfl⟩]
   show ((if (0 : Int) = 0 then bisK ⟨F, rl + 1, lamK g [], false, 0, fun _ _ => none⟩ xs k else none).map V.p) = _
   rw [if_pos rfl]
   unfold bisK
   show ((match keysOf (lamK g []) xs with | some ks => if ks.Pairwise (· ≤ ·) ∧ ks.length ≤ 1000 ∧ rl + 1 ≤ 5 then some (P.int (cnt ks k : Int)) else none | none => none).map V.p) = _
   rw [hks]
   simp only
   rw [if_pos ⟨hp, by exact n9 ‹_› (by decide), hrl⟩]; rfl
 · refine ⟨j, xs, (cnt ks k : Int), d, rfl, rfl, hx, by lia, by exact r6, by lia, rfl, ?_⟩
   show own.set j _ = _
   rw [Int.toNat_natCast]
theorem wInsort_of {rm rl j : Nat} {g : St → Option V} {fs : St → Option (List V)} {σ : St} {Po : Post} {xs : List P} {ks : List Int} {d : P} {k : Int} (hrm : 5 ≤ rm) (hrl : rl + 1 ≤ 5) (hfs : fs σ = some [.own j, .p d]) (hx : σ.own[j]? = some xs) (hks : keysOf (lamK g []) xs = some ks) (hp : ks.Pairwise (· ≤ ·)) (hl : ks.length ≤ 900) (hk : lamK g [] [d] = some (.int k))
   (h : Po .next (σ.set j (xs.take (cnt ks k) ++ d :: xs.drop (cnt ks k)))) : wInsort rm rl opB g fs σ Po :=
 ⟨.own j, .p d, σ.own.set j (xs.take (cnt ks k) ++ d :: xs.drop (cnt ks k)), hfs, by simp, h, fun F => insort_of hrm hrl hx hks hp hl hk⟩
noncomputable def rowL (q : Int × Int) : P := .lst [.int q.1, .int q.2]
noncomputable def prodI : List Int → Int
 | [] => 1
 | p :: ps => p * prodI ps
theorem prodI_pos : ∀ {ps : List Int}, (∀ p ∈ ps, 1 ≤ p) → 1 ≤ prodI ps
 | [], _ => Int.le_refl _
 | p :: ps, h => by
   have h1 := h p (.head _)
   have h2 := prodI_pos fun q hq => h q (.tail _ hq)
   have := imr h1 (show 0 ≤ prodI ps by exact q1 ‹_›)
   show 1 ≤ p * prodI ps; lia
noncomputable def backI (p a : Int) : List Int := ((runQ p a (lastI p a + 1)).filter fun q => q.1 == 1).map (·.2)
noncomputable def totI (N : Int) : List (Int × Int) → Int
 | [] => 0
 | q :: qs => q.1 * (N / q.2) * (backI q.2 (N / q.2 % q.2)).headD 0 + totI N qs
noncomputable def stF (rows : List P) (B N v3 v4 tot v6 v7 : Option V) (rest : List (Option V)) : St := ⟨some (.p (.lst rows)) :: B :: N :: v3 :: v4 :: tot :: v6 :: v7 :: rest, [], Ky.no⟩
theorem found_prod {rows : List P} {B tot v6 v7 : Option V} {rest : List (Option V)} {Po : Post} : ∀ (qs : List (Int × Int)) (acc : Int) (v3 v4 : Option V), (∀ q ∈ qs, 1 ≤ q.2) → 1 ≤ acc → acc * prodI (qs.map (·.2)) < 2 ^ 64 →
   (∀ v3 v4, Po .next (stF rows B (some (.p (.int (acc * prodI (qs.map (·.2)))))) v3 v4 tot v6 v7 rest)) →
   wTurns (fun zz => True) (fun σ v => (seqOf σ v).bind fun xs => putAll [3, 4] xs σ) (wSeq (wAug 2 imulP (cV 4)) wNil) (qs.map rowL) (stF rows B (some (.p (.int acc))) v3 v4 tot v6 v7 rest) Po
 | [], acc, v3, v4, _, _, _, h => by
   have := h v3 v4
   simp only [List.map_nil, prodI, Int.mul_one] at this
   exact this
 | q :: qs, acc, v3, v4, hq, ha, hb, h => by
   have hq1 := hq q (.head _)
   have hp := prodI_pos (ps := qs.map (·.2)) fun p hp => by obtain ⟨r, hr, rfl⟩ := List.mem_map.mp hp; exact hq r (.tail _ hr)
   have e : acc * prodI ((q :: qs).map (·.2)) = acc * q.2 * prodI (qs.map (·.2)) := by show acc * (q.2 * _) = _; rw [Int.mul_assoc]
   have h1 : acc * 1 ≤ acc * q.2 := iml hq1 (by exact q1 ‹_›)
   have h2 : acc * q.2 * 1 ≤ acc * q.2 * prodI (qs.map (·.2)) := iml hp (by lia)
   refine ⟨stF rows B (some (.p (.int acc))) (some (.p (.int q.1))) (some (.p (.int q.2))) tot v6 v7 rest, rfl, ?_⟩
   refine ⟨.int acc, .int q.2, .int (acc * q.2), rfl, rfl, ?_, trivial, ?_⟩
   · (delta imulP; dsimp only); rw [if_pos (by exact na (by lia))]
   · refine found_prod qs (acc * q.2) _ _ (fun r hr => hq r (.tail _ hr)) (by lia) (by rw [← e]; exact hb) fun v3 v4 => ?_
     have := h v3 v4
     rw [e] at this
     exact this
theorem comp_back {own : List (List P)} {ky : Ky} : ∀ (qs : List (Int × Int)) (acc : List P), compP (cB (lift2 eqP (cSub (cV 1) (cK (.int 0))) (cK (.int 1)))) (cSub (cV 1) (cK (.int 1))) [] own ky (qs.map rowP) acc = some (acc ++ ((qs.filter fun q => q.1 == 1).map (·.2)).map .int)
 | [], acc => by simp [compP]
 | q :: qs, acc => by
   have hc : (cB (lift2 eqP (cSub (cV 1) (cK (.int 0))) (cK (.int 1)))) ⟨[none, some (.p (rowP q))], own ++ [acc], ky⟩ = some (q.1 == 1) :=
     cB_of (lift2_of (a := .int q.1) (b := .int 1) (sub_tup0 (a := .int q.1) (b := .int q.2) rfl) rfl rfl)
   have hf : (cSub (cV 1) (cK (.int 1))) ⟨[none, some (.p (rowP q))], own ++ [acc], ky⟩ = some (.p (.int q.2)) := sub_tup1 (a := .int q.1) (b := .int q.2) rfl
   simp only [List.map_cons, compP, hc]
   cases he : q.1 == 1 with
   | true =>
     simp only [hf]
     rw [comp_back qs]
     simp [he]
   | false =>
     simp only
     rw [comp_back qs]
     simp [he]
theorem found_tot {rows : List P} {B : Option V} {N : Int} {rest : List (Option V)} {Po : Post} (hN0 : 0 < N) (hN : N < 2 ^ 40) : ∀ (qs : List (Int × Int)) (tot : Int) (v3 v4 v6 v7 : Option V), (∀ q ∈ qs, 0 ≤ q.1 ∧ q.1 < 100 ∧ 1 ≤ q.2 ∧ q.2 < 100 ∧ 0 < N / q.2 % q.2 ∧ (backI q.2 (N / q.2 % q.2)).length ≠ 0) →
   (∀ v3 v4 v6 v7, Po .next (stF rows B (some (.p (.int N))) v3 v4 (some (.p (.int (tot + totI N qs)))) v6 v7 rest)) →
   wTurns (fun zz => True) (fun σ v => (seqOf σ v).bind fun xs => putAll [3, 4] xs σ) (wSeq (wSet 6 (lift2 fdivP (cV 2) (cV 4))) (wSeq (wSet 7 (cFz (nComp [] (cB (lift2 eqP (cSub (cV 1) (cK (.int 0))) (cK (.int 1)))) (cSub (cV 1) (cK (.int 1))) (srcL (cApp (opF opR) (cCons (cV 4) (cCons (cSub (cApp (opF opD) (cCons (cV 6) (cCons (cV 4) cNil))) (cK (.int 1))) cNil))))))) (wSeq (wAug 5 iaddP (lift2 mulP (lift2 mulP (cV 3) (cV 6)) (cSub (cV 7) (cK (.int 0))))) wNil))) (qs.map rowL) (stF rows B (some (.p (.int N))) v3 v4 (some (.p (.int tot))) v6 v7 rest) Po
 | [], tot, v3, v4, v6, v7, _, h => by
   have := h v3 v4 v6 v7
   simp only [totI, Int.add_zero] at this
   exact this
 | q :: qs, tot, v3, v4, v6, v7, hq, h => by
   refine wg fun P' bk => ?_
   obtain ⟨s0, s1, p0, p1, hm, hbk⟩ := hq q (.head _)
   obtain ⟨O, hO⟩ : ∃ O, O = N / q.2 := ⟨_, rfl⟩
   have hO0 : 0 ≤ O := by rw [hO]; exact Int.ediv_nonneg (by exact q1 ‹_›) (by exact q1 ‹_›)
   have hON : O ≤ N := by rw [hO]; exact Int.ediv_le_self _ (by exact q1 ‹_›)
   rw [← hO] at hm hbk
   have hml := Int.emod_lt_of_pos O (show 0 < q.2 by assumption)
   refine bk ?_
   refine ⟨stF rows B (some (.p (.int N))) (some (.p (.int q.1))) (some (.p (.int q.2))) (some (.p (.int tot))) v6 v7 rest, rfl, ?_⟩
   refine ⟨.p (.int O), ?_, ?_⟩
   · refine lift2_of (a := .int N) (b := .int q.2) rfl rfl ?_
     (delta fdivP; dsimp only); rw [if_pos (by exact ⟨by lia, na (by lia)⟩), Int.fdiv_eq_ediv_of_nonneg _ (by exact q1 ‹_›), hO]
   · refine ⟨.p (.lst ((backI q.2 (O % q.2)).map .int)), ?_, ?_⟩
     · refine wg fun P' bk => ?_
       obtain ⟨σ, hσ⟩ : ∃ σ, σ = (stF rows B (some (.p (.int N))) (some (.p (.int q.1))) (some (.p (.int q.2))) (some (.p (.int tot))) (some (.p (.int O))) v7 rest) := ⟨_, rfl⟩
       have e1 : (cApp (opF opD) (cCons (cV 6) (cCons (cV 4) cNil))) σ = some (.p (.tup [.int (O / q.2), .int (O % q.2)])) := by
         rw [hσ]
         refine cApp_of (vs := [.p (.int O), .p (.int q.2)]) rfl (opF_of rfl ?_)
         have a1 : qD O q.2 = O / q.2 := if_pos (by assumption)
         have a2 : rD O q.2 = O % q.2 := if_pos (by assumption)
         (delta opD; dsimp only); rw [if_pos (by exact ⟨na (by lia), by lia, na (by lia)⟩), a1, a2]
       have e2 : (cApp (opF opR) (cCons (cV 4) (cCons (cSub (cApp (opF opD) (cCons (cV 6) (cCons (cV 4) cNil))) (cK (.int 1))) cNil))) σ = some (.p (.lst ((runQ q.2 (O % q.2) (lastI q.2 (O % q.2) + 1)).map rowP))) := by
         refine cApp_of (vs := [.p (.int q.2), .p (.int (O % q.2))]) (cCons_of (by rw [hσ]; rfl) (cCons_of (sub_tup1 e1) rfl)) (opF_of rfl ?_)
         (delta opR; dsimp only); rw [if_pos (by lia)]
       have hL := (lastI_ok (g := q.2) (l := O % q.2) (by exact q1 ‹_›) hml (by exact r1 ‹_› (by decide))).2
       have e4 : (stF rows B (some (.p (.int N))) (some (.p (.int q.1))) (some (.p (.int q.2))) (some (.p (.int tot))) v6 v7 rest).put 6 (.p (.int O)) = σ := by rw [hσ]; rfl
       refine bk ?_
       rw [e4]
       dsimp only [cFz, nComp, srcL]
       rw [e2]
       simp only
       rw [if_pos (by rw [rows_len]; exact m1 ‹_› (by decide)), show restOf [] σ = [] from rfl, comp_back]
       rfl
     · have e3 : (cSub (cV 7) (cK (.int 0))) (stF rows B (some (.p (.int N))) (some (.p (.int q.1))) (some (.p (.int q.2))) (some (.p (.int tot))) (some (.p (.int O))) (some (.p (.lst ((backI q.2 (O % q.2)).map .int)))) rest) = some (.p (.int ((backI q.2 (O % q.2)).headD 0))) := by
         cases hb : backI q.2 (O % q.2) with
         | nil => rw [hb] at hbk; exact absurd rfl hbk
         | cons b bs =>
           refine cSub_of (v := .p (.lst ((b :: bs).map .int))) (k := 0) rfl rfl (by decide) ?_
           show (seqIndex? 0 ((b :: bs).map P.int).length).bind (((b :: bs).map P.int)[·]?) = _
           rw [show (0 : Int) = ((0 : Nat) : Int) from rfl, idx_pos (by simp)]
           rfl
       refine ⟨.int tot, .int (q.1 * O * (backI q.2 (O % q.2)).headD 0), .int (tot + q.1 * O * (backI q.2 (O % q.2)).headD 0), rfl, ?_, rfl, trivial, ?_⟩
       · have hso : q.1 * O ≤ 100 * 2 ^ 40 := Int.le_trans (imr (show q.1 ≤ 100 by exact q1 ‹_›) hO0) (iml (show O ≤ 2 ^ 40 by lia) (by decide))
         have hso0 : 0 ≤ q.1 * O := Int.mul_nonneg s0 hO0
         refine lift2_of (a := .int (q.1 * O)) (b := .int ((backI q.2 (O % q.2)).headD 0)) (lift2_of (a := .int q.1) (b := .int O) rfl rfl ?_) e3 ?_
         · (delta mulP; dsimp only); rw [if_pos (by exact na (by lia))]
         · (delta mulP; dsimp only); rw [if_pos (by exact na (by lia))]
       · refine found_tot hN0 hN qs (tot + q.1 * O * (backI q.2 (O % q.2)).headD 0) _ _ _ _ (fun r hr => hq r (.tail _ hr)) fun v3 v4 v6 v7 => ?_
         have := h v3 v4 v6 v7
         dsimp only [totI] at this
         rw [← hO, ← Int.add_assoc] at this
         exact this
theorem keysOf_map {α : Type} {κ : List P → Option P} {h : α → P} {k : α → Int} : ∀ {xs : List α}, (∀ x ∈ xs, κ [h x] = some (.int (k x))) → keysOf κ (xs.map h) = some (xs.map k)
 | [], _ => rfl
 | x :: xs, H => by
   simp only [List.map_cons, keysOf]
   rw [H x (.head _), keysOf_map fun y hy => H y (.tail _ hy)]
theorem cKw_of {n : Nat} {op : Ky → List P → Option P} {g : St → Option V} {fs : St → Option (List V)} {rests : St → Option (List (Option V))} {σ : St} {vs : List V} {ps : List P} {rest : List (Option V)} {r : P} (h1 : fs σ = some vs) (h2 : toPs σ vs = some ps) (h3 : rests σ = some rest) (h4 : op ⟨0, n, lamK g rest, false, 0, fun _ _ => none⟩ ps = some r) : cKw n op g fs rests σ = some (.p r) := by
 unfold cKw
 rw [h1, Option.bind_some, h2, h3]
 simp only [h4, Option.map_some]
theorem bisK_of {ky : Ky} {xs : List P} {ks : List Int} {x : Int} (h1 : keysOf ky.kap xs = some ks) (h2 : ks.Pairwise (· ≤ ·)) (h3 : ks.length ≤ 1000) (h4 : ky.n ≤ 5) : bisK ky xs x = some (.int (cnt ks x : Int)) := by
 unfold bisK; rw [h1]; exact if_pos ⟨h2, h3, h4⟩
theorem lamK_of {f : St → Option V} {rest : List (Option V)} {x r : P} (h : f ⟨some (.p x) :: rest, [], Ky.no⟩ = some (.p r)) (hn : noLst r = true) : lamK f rest [x] = some r := by
 show oneP (f ⟨[some (.p x)] ++ rest, [], Ky.no⟩) = _
 rw [show [some (V.p x)] ++ rest = some (V.p x) :: rest from rfl, h]
 exact if_pos hn
theorem pw_range {n : Nat} {f : Nat → Int} (h : ∀ i j, i < j → j < n → f i ≤ f j) : ((List.range n).map f).Pairwise (· ≤ ·) := by
 rw [List.pairwise_map]
 exact List.pairwise_lt_range.imp_of_mem fun {a b} ha hb hab => h a b hab (List.mem_range.mp hb)
noncomputable def pl (qs : List (Int × Int)) (k : Nat) : Int := ((qs[qs.length - k]?).getD (0, 0)).2
noncomputable def fN (qs : List (Int × Int)) : Int := prodI (qs.map (·.2))
noncomputable def fR (qs : List (Int × Int)) : Int := totI (fN qs) qs % fN qs
noncomputable def fQ (qs : List (Int × Int)) : List (Int × Int) := runQ (fN qs) (fR qs) (lastI (fN qs) (fR qs) + 1)
noncomputable def fW (qs : List (Int × Int)) : List Int := [1, pl qs 1, pl qs 1 * pl qs 2]
noncomputable def fb (qs : List (Int × Int)) (B : Int) : Nat := cnt ((fW qs).map fun w => 4 * w * w * B) (fN qs) - 1
noncomputable def fw (qs : List (Int × Int)) (B : Int) : Int := (fW qs).getD (fb qs B) 0
noncomputable def fpl (qs : List (Int × Int)) (B : Int) : Nat := cnt ((fQ qs).map fun q => -q.1) (-2 * B * fw qs B)
noncomputable def fag (qs : List (Int × Int)) (B : Int) : Int := (cnt ((fQ qs).map fun q => if q.2 < 0 then -q.2 else q.2) (fw qs B) : Int) - 1
noncomputable def FOk (qs : List (Int × Int)) (B : Int) : Prop := 2 ≤ qs.length ∧ qs.length ≤ 7 ∧ (∀ q ∈ qs, 0 ≤ q.1 ∧ q.1 < 100 ∧ 1 ≤ q.2 ∧ q.2 < 100 ∧ 0 < fN qs / q.2 % q.2 ∧ (backI q.2 (fN qs / q.2 % q.2)).length ≠ 0) ∧ fN qs < 2 ^ 40 ∧ 0 < B ∧ B < 2 ^ 40 ∧ 4 * B ≤ fN qs ∧ fpl qs B < (fQ qs).length
noncomputable def rowsQ : List P → Option (List (Int × Int))
 | [] => some []
 | .lst [.int s, .int p] :: r => (rowsQ r).map ((s, p) :: ·)
 | _ :: _ => none
theorem rowsQ_map : ∀ {qs : List (Int × Int)}, rowsQ (qs.map rowL) = some qs
 | [] => rfl
 | q :: qs => by show (rowsQ (qs.map rowL)).map _ = _; rw [rowsQ_map]; rfl
theorem rowsQ_of : ∀ {rows : List P} {qs : List (Int × Int)}, rowsQ rows = some qs → rows = qs.map rowL := by
 intro rows
 induction rows with
 | nil => intro qs h; obtain rfl := sij h; rfl
 | cons x r ih =>
   intro qs h
   cases x with
   | lst l =>
     obtain ⟨a, b, rfl⟩ : ∃ a b, l = [.int a, .int b] := by
       cases l with
       | nil => exact nn h
       | cons x0 r0 =>
           cases x0 with
           | int a =>
               cases r0 with
               | nil => exact nn h
               | cons x1 r1 =>
                   cases x1 with
                   | int b =>
                       cases r1 with
                       | nil =>
                           exact ⟨a, b, rfl⟩
                       | cons => exact nn h
                   | _ => exact nn h
           | _ => exact nn h
     obtain ⟨ms, hm, rfl⟩ := Option.map_eq_some_iff.mp h
     rw [ih hm]; rfl
   | _ => exact nn h
noncomputable def resF (qs : List (Int × Int)) (B : Int) : P := .lst [.int (fb qs B : Int), .bool ((fpl qs B : Int) == fag qs B), .int (((fQ qs)[fpl qs B]?).getD (0, 0)).1, .int (((fQ qs)[fpl qs B]?).getD (0, 0)).2]
open Classical in
noncomputable def opFB (o : Option (List (Int × Int))) (B : Int) : Option P := match o with
 | some qs => if FOk qs B then some (resF qs B) else none
 | none => none
noncomputable def opF0 : List P → Option P
 | [.lst rows, .int B] => opFB (rowsQ rows) B
 | _ => none
theorem opF0_of {qs : List (Int × Int)} {B : Int} (h : FOk qs B) : opF0 [.lst (qs.map rowL), .int B] = some (resF qs B) := by
 show opFB (rowsQ (qs.map rowL)) B = _
 rw [rowsQ_map]; exact if_pos h
theorem opF0_inv {xs : List P} {r : P} (h : opF0 xs = some r) : ∃ qs B, xs = [.lst (qs.map rowL), .int B] ∧ FOk qs B ∧ r = resF qs B := by
 obtain ⟨rows, B, rfl, h'⟩ := li_inv h
 clear h
 have h := h'
 clear h'
 ·
   unfold opFB at h
   split at h
   · rename_i qs hq
     split at h
     · rename_i hk
       obtain rfl := sij h
       exact ⟨qs, B, by rw [rowsQ_of hq], hk, rfl⟩
     · cases h
   · cases h
theorem fQ_len {qs : List (Int × Int)} : (fQ qs).length = lastI (fN qs) (fR qs) + 1 := runQ_len
theorem pl_pos {qs : List (Int × Int)} {k : Nat} (h : ∀ q ∈ qs, 1 ≤ q.2) (h1 : 1 ≤ k) (h2 : k ≤ qs.length) : 1 ≤ pl qs k := by
 unfold pl
 have hl : qs.length - k < qs.length := by lia
 rw [List.getElem?_eq_getElem hl]
 exact h _ (List.getElem_mem hl)
theorem pl_small {qs : List (Int × Int)} {k : Nat} (h : ∀ q ∈ qs, q.2 < 100) (h1 : 1 ≤ k) (h2 : k ≤ qs.length) : pl qs k < 100 := by
 unfold pl
 have hl : qs.length - k < qs.length := by lia
 rw [List.getElem?_eq_getElem hl]
 exact h _ (List.getElem_mem hl)
theorem row_end {qs : List (Int × Int)} {f : St → Option V} {σ : St} {k : Nat} (hf : f σ = some (.p (.lst (qs.map rowL)))) (h1 : 1 ≤ k) (h2 : k ≤ qs.length) (hk : k ≤ 1000) : cSub (cSub f (lift1 negP (cK (.int (k : Int))))) (cK (.int 1)) σ = some (.p (.int (pl qs k))) := by
 have hl : qs.length - k < qs.length := by lia
 have e1 : cSub f (lift1 negP (cK (.int (k : Int)))) σ = some (.p (rowL qs[qs.length - k])) := by
   refine cSub_of hf (lift1_of (a := .int (k : Int)) rfl rfl) (by lia) ?_
   show (seqIndex? (-(k : Int)) (qs.map rowL).length).bind ((qs.map rowL)[·]?) = _
   rw [idx_neg h1 (by rw [List.length_map]; exact h2), Option.bind_some]
   simp [hl]
 have e2 : pl qs k = qs[qs.length - k].2 := by unfold pl; rw [List.getElem?_eq_getElem hl]; rfl
 rw [e2]
 exact cSub_of e1 rfl (by decide) rfl
theorem ws_pw {qs : List (Int × Int)} {B : Int} (hB : 0 < B) (h1 : 1 ≤ pl qs 1) (h2 : 1 ≤ pl qs 2) : ((fW qs).map fun w => 4 * w * w * B).Pairwise (· ≤ ·) := by
 have m : ∀ {a b : Int}, 1 ≤ a → a ≤ b → 4 * a * a * B ≤ 4 * b * b * B := fun {a b} ha hab => by
   have k1 : 4 * a * a ≤ 4 * b * b := by
     have := Int.mul_le_mul (show 4 * a ≤ 4 * b by lia) hab (by exact q1 ‹_›) (by lia); exact this
   exact imr k1 (by exact q1 ‹_›)
 have hw : pl qs 1 ≤ pl qs 1 * pl qs 2 := by have := iml h2 (show 0 ≤ pl qs 1 by exact q1 ‹_›); lia
 refine .cons (fun b hb => ?_) (.cons (fun b hb => ?_) (.cons (fun b hb => by cases hb) .nil))
 · have hb : b ∈ [4 * pl qs 1 * pl qs 1 * B, 4 * (pl qs 1 * pl qs 2) * (pl qs 1 * pl qs 2) * B] := hb
   simp only [List.mem_cons, List.not_mem_nil, or_false] at hb
   rcases hb with rfl | rfl
   · exact m (Int.le_refl 1) h1
   · exact m (Int.le_refl 1) (by lia)
 · have hb : b ∈ [4 * (pl qs 1 * pl qs 2) * (pl qs 1 * pl qs 2) * B] := hb
   simp only [List.mem_cons, List.not_mem_nil, or_false] at hb
   subst hb
   exact m h1 hw
theorem nLst_of {fs : St → Option (List V)} {σ : St} {vs : List V} {xs : List P} (hs : fs σ = some vs) (h : allP vs = some xs) (hl : xs.length ≤ 1000) : nLst fs σ = some xs := by
 unfold nLst; rw [hs]; simp only [Option.bind_some, h]; exact if_pos hl
theorem fQ_pw1 {N R : Int} (h0 : 0 ≤ R) (h1 : R < N) (h2 : N < 2 ^ 40) : ((runQ N R (lastI N R + 1)).map fun q => -q.1).Pairwise (· ≤ ·) := by
 obtain ⟨x, _⟩ := lastI_ok h0 h1 h2
 unfold runQ
 rw [List.map_map]
 exact pw_range (f := fun i => -er N R i) fun i j hij hj => by have := er_mono h0 h1 x hij (by lia); lia
theorem abs_eq (t : Int) : (if t < 0 then -t else t) = (t.natAbs : Int) := by split <;> lia
theorem fQ_pw2 {N R : Int} (h0 : 0 ≤ R) (h1 : R < N) (h2 : N < 2 ^ 40) : ((runQ N R (lastI N R + 1)).map fun q => if q.2 < 0 then -q.2 else q.2).Pairwise (· ≤ ·) := by
 obtain ⟨x, _⟩ := lastI_ok h0 h1 h2
 unfold runQ
 rw [List.map_map]
 exact pw_range (f := fun i => if et N R i < 0 then -et N R i else et N R i) fun i j hij hj => by
   have := et_mono h0 h1 x (i := i) (j := j) (by exact n1 ‹_›) (by lia)
   rw [abs_eq, abs_eq]; lia
theorem et_le {N R : Int} {L : Nat} (h0 : 0 ≤ R) (h1 : R < N) (x : Last N R L) : ∀ i, i ≤ L → ((et N R i).natAbs : Int) ≤ N
 | 0, _ => by
   have e : et N R 0 = 0 := rfl
   rw [e]; simp; lia
 | i + 1, hi => by
   obtain ⟨u0, u1, e, y, e0, e1⟩ := ev_inv h0 h1 i fun k hk => x.pos k (by exact n6 ‹_› ‹_›)
   have hp := x.pos i (by assumption)
   have a1 : u1 * 1 ≤ u1 * er N R i := iml hp (by have := y.u1p; exact q1 ‹_›)
   have a2 : 0 ≤ u0 * er N R (i + 1) := Int.mul_nonneg y.u0n y.n1
   have := y.sum
   lia
theorem back_small {p a b : Int} (h0 : 0 ≤ a) (h1 : a < p) (h2 : p < 2 ^ 40) (hb : b ∈ backI p a) : (b.natAbs : Int) ≤ p := by
 obtain ⟨x, _⟩ := lastI_ok h0 h1 h2
 unfold backI at hb
 obtain ⟨q, hq, rfl⟩ := List.mem_map.mp hb
 have hq := (List.mem_filter.mp hq).1
 unfold runQ at hq
 obtain ⟨i, hi, rfl⟩ := List.mem_map.mp hq
 exact et_le h0 h1 x i (by have := List.mem_range.mp hi; lia)
theorem tot_small {N : Int} (hN0 : 0 < N) (hN : N < 2 ^ 40) : ∀ {qs : List (Int × Int)}, (∀ q ∈ qs, 0 ≤ q.1 ∧ q.1 < 100 ∧ 1 ≤ q.2 ∧ q.2 < 100 ∧ 0 < N / q.2 % q.2 ∧ (backI q.2 (N / q.2 % q.2)).length ≠ 0) → ((totI N qs).natAbs : Int) ≤ qs.length * (100 * 2 ^ 40 * 100)
 | [], _ => by simp [totI]
 | q :: qs, h => by
   obtain ⟨a1, a2, a3, a4, a5, a6⟩ := h q (.head _)
   have ih := tot_small hN0 hN (qs := qs) fun r hr => h r (.tail _ hr)
   have hO0 : 0 ≤ N / q.2 := Int.ediv_nonneg (by exact q1 ‹_›) (by exact q1 ‹_›)
   have hON : N / q.2 ≤ N := Int.ediv_le_self _ (by exact q1 ‹_›)
   have hb : (((backI q.2 (N / q.2 % q.2)).headD 0).natAbs : Int) ≤ 100 := by
     cases hbk : backI q.2 (N / q.2 % q.2) with
     | nil => rw [hbk] at a6; exact absurd rfl a6
     | cons b bs =>
       have := back_small (p := q.2) (a := N / q.2 % q.2) (b := b) (by exact q1 ‹_›) (Int.emod_lt_of_pos _ (by assumption)) (by exact r1 ‹_› (by decide)) (by rw [hbk]; exact .head _)
       show (b.natAbs : Int) ≤ 100; lia
   have hso : q.1 * (N / q.2) ≤ 100 * 2 ^ 40 := Int.le_trans (imr (show q.1 ≤ 100 by exact q1 ‹_›) hO0) (iml (show N / q.2 ≤ 2 ^ 40 by lia) (by decide))
   have hso0 : 0 ≤ q.1 * (N / q.2) := Int.mul_nonneg a1 hO0
   have hterm : ((q.1 * (N / q.2) * (backI q.2 (N / q.2 % q.2)).headD 0).natAbs : Int) ≤ 100 * 2 ^ 40 * 100 := by
     rw [Int.natAbs_mul, Int.natCast_mul]
     exact Int.mul_le_mul (by lia) hb (by exact r6) (by decide)
   have e : totI N (q :: qs) = q.1 * (N / q.2) * (backI q.2 (N / q.2 % q.2)).headD 0 + totI N qs := rfl
   rw [e, List.length_cons]
   generalize q.1 * (N / q.2) * (backI q.2 (N / q.2 % q.2)).headD 0 = z at *
   have e2 : ((qs.length + 1 : Nat) : Int) * (100 * 2 ^ 40 * 100) = qs.length * (100 * 2 ^ 40 * 100) + 100 * 2 ^ 40 * 100 := by lia
   lia
theorem fn_F : Fn 18 144 opF0 := by
 refine wg fun P' bk => ?_
 obtain ⟨qual, params, body, cs, dV, kV, B, S, T, C⟩ := d_law_found (rm := 17) (fn_D.mono (by decide)) (fn_R.mono (by decide)) (fn_B (rm := 16) (by decide)) opB_hop
 refine bk ?_
 refine fn_of_cells B S T C (by decide) fun xs r h => ?_
 refine wg fun P' bk => ?_
 obtain ⟨qs, B, rfl, hk, rfl⟩ := opF0_inv h
 obtain ⟨k1, k2, k3, k4, k5, k6, k7, k8⟩ := hk
 refine bk ?_
 refine ⟨rfl, .p (.int 1), rfl, qs.map rowL, rfl, ?_⟩
 have hN1 : 1 ≤ fN qs := prodI_pos fun p hp => by obtain ⟨q, hq, rfl⟩ := List.mem_map.mp hp; exact (k3 q hq).2.2.1
 refine found_prod (rows := qs.map rowL) (B := some (.p (.int B))) (tot := none) (v6 := none) (v7 := none) (rest := List.replicate 8 none) qs 1 none none (fun q hq => (k3 q hq).2.2.1) (Int.le_refl _) (by rw [Int.one_mul]; show fN qs < _; exact r1 ‹_› (by decide)) fun v3 v4 => ?_
 rw [Int.one_mul]
 refine ⟨.p (.int 0), rfl, qs.map rowL, rfl, ?_⟩
 refine found_tot (rows := qs.map rowL) (B := some (.p (.int B))) (N := fN qs) (rest := List.replicate 8 none) (by assumption) k4 qs 0 v3 v4 none none k3 fun v3 v4 v6 v7 => ?_
 rw [Int.zero_add]
 have hR0 : 0 ≤ fR qs := Int.emod_nonneg _ (by exact q7 ‹_›)
 have hR1 : fR qs < fN qs := Int.emod_lt_of_pos _ (by assumption)
 have hL := (lastI_ok hR0 hR1 k4).2
 have hql : (fQ qs).length ≤ 81 := by rw [fQ_len]; exact m1 ‹_› (by decide)
 have p1 : 1 ≤ pl qs 1 := pl_pos (fun q hq => (k3 q hq).2.2.1) (by decide) (by exact n1 ‹_›)
 have p2 : 1 ≤ pl qs 2 := pl_pos (fun q hq => (k3 q hq).2.2.1) (by decide) (by assumption)
 have s1 := pl_small (k := 1) (fun q hq => (k3 q hq).2.2.2.1) (by decide) (by exact n1 ‹_›)
 have s2 := pl_small (k := 2) (fun q hq => (k3 q hq).2.2.2.1) (by decide) (by assumption)
 have hw12 : 1 ≤ pl qs 1 * pl qs 2 := by have := iml p2 (show 0 ≤ pl qs 1 by exact q1 ‹_›); lia
 have hw12' : pl qs 1 * pl qs 2 ≤ 10000 := by
   have a1 : pl qs 1 * pl qs 2 ≤ 100 * pl qs 2 := imr (by exact q1 ‹_›) (by exact q1 ‹_›)
   lia
 have hwr : ∀ w ∈ fW qs, 1 ≤ w ∧ w ≤ 10000 := fun w hw => by
   have hw : w ∈ [1, pl qs 1, pl qs 1 * pl qs 2] := hw
   simp only [List.mem_cons, List.not_mem_nil, or_false] at hw
   rcases hw with rfl | rfl | rfl <;> lia
 have hts := tot_small (by assumption) k4 k3
 have htot : (totI (fN qs) qs).natAbs < 2 ^ 64 := by
   have : (qs.length : Int) * (100 * 2 ^ 40 * 100) ≤ 7 * (100 * 2 ^ 40 * 100) := imr (by lia) (by decide)
   lia
 have hfb1 : 1 ≤ cnt ((fW qs).map fun w => 4 * w * w * B) (fN qs) := by
   have := (cnt_iff (x := fN qs) (i := 0) (k := 4 * 1 * 1 * B) (ws_pw k5 p1 p2) rfl).mp (by assumption)
   exact this
 have hfb3 : cnt ((fW qs).map fun w => 4 * w * w * B) (fN qs) ≤ 3 := Nat.le_trans cnt_le (by simp [fW])
 have hfbd : fb qs B = cnt ((fW qs).map fun w => 4 * w * w * B) (fN qs) - 1 := rfl
 have hfwl : (fW qs).length = 3 := rfl
 have hfwm : fw qs B ∈ fW qs := by
   unfold fw
   rw [List.getD_eq_getElem?_getD, List.getElem?_eq_getElem (by lia)]
   exact List.getElem_mem _
 have hfw := hwr _ hfwm
 refine ⟨.p (.lst ((fQ qs).map rowP)), ?_, ?_⟩
 · refine cApp_of (vs := [.p (.int (fN qs)), .p (.int (fR qs))]) (cCons_of rfl (cCons_of (sub_tup1 (a := .int (totI (fN qs) qs / fN qs)) (cApp_of (vs := [.p (.int (totI (fN qs) qs)), .p (.int (fN qs))]) rfl (opF_of rfl ?_))) rfl)) (opF_of rfl ?_)
   · have a1 : qD (totI (fN qs) qs) (fN qs) = totI (fN qs) qs / fN qs := if_pos (by assumption)
     have a2 : rD (totI (fN qs) qs) (fN qs) = fR qs := if_pos (by assumption)
     (delta opD; dsimp only); rw [if_pos (by exact ⟨na (by lia), by lia, na (by lia)⟩), a1, a2]
   · (delta opR; dsimp only); rw [if_pos (by lia)]; rfl
 refine ⟨.p (.lst ((fW qs).map .int)), ?_, ?_⟩
 · refine cLst_of (vs := [.p (.int 1), .p (.int (pl qs 1)), .p (.int (pl qs 1 * pl qs 2))]) (cCons_of rfl (cCons_of (row_end (k := 1) rfl (by decide) (by exact n1 ‹_›) (by decide)) (cCons_of (lift2_of (a := .int (pl qs 1)) (b := .int (pl qs 2)) (row_end (k := 1) rfl (by decide) (by exact n1 ‹_›) (by decide)) (row_end (k := 2) rfl (by decide) (by assumption) (by decide)) ?_) rfl))) rfl (by show (3 : Nat) ≤ 1000; decide)
   (delta mulP; dsimp only); rw [if_pos (by exact na (by lia))]
 refine ⟨.p (.int (fb qs B : Int)), ?_, ?_⟩
 · refine lift2_of (a := .int (cnt ((fW qs).map fun w => 4 * w * w * B) (fN qs) : Int)) (b := .int 1) (cKw_of (vs := [.p (.lst ((fW qs).map .int)), .p (.int (fN qs))]) (ps := [.lst ((fW qs).map .int), .int (fN qs)]) (rest := [some (.p (.int B))]) rfl rfl rfl ?_) rfl ?_
   · refine bisK_of (keysOf_map (h := P.int) (k := fun w => 4 * w * w * B) fun w hw => lamK_of (lift2_of (a := .int (4 * w * w)) (b := .int B) (lift2_of (a := .int (4 * w)) (b := .int w) (lift2_of (a := .int 4) (b := .int w) rfl rfl rfl) rfl ?_) rfl ?_) rfl) (ws_pw k5 p1 p2) (by rw [List.length_map]; lia) (Nat.le_of_ble_eq_true rfl)
     · have := hwr w hw
       (delta mulP; dsimp only); rw [if_pos (by lia)]
     · have := hwr w hw
       have a1 : 4 * w * w ≤ 40000 * 10000 := Int.le_trans (imr (show 4 * w ≤ 40000 by lia) (by lia)) (iml (show w ≤ 10000 by lia) (by decide))
       have a2 : 0 ≤ 4 * w * w := Int.mul_nonneg (by lia) (by lia)
       (delta mulP; dsimp only); rw [if_pos (by lia)]
   · show some (P.int (_ - 1)) = _
     congr 2; lia
 have hwb : ∀ {σ : St}, cV 9 σ = some (.p (.lst ((fW qs).map .int))) → cV 10 σ = some (.p (.int (fb qs B : Int))) → cSub (cV 9) (cV 10) σ = some (.p (.int (fw qs B))) := fun {σ} h9 h10 => by
   refine cSub_of h9 h10 (by lia) ?_
   show (seqIndex? (fb qs B : Int) ((fW qs).map P.int).length).bind (((fW qs).map P.int)[·]?) = _
   rw [idx_pos (by rw [List.length_map]; lia), Option.bind_some, List.getElem?_map, List.getElem?_eq_getElem (by lia)]
   unfold fw
   rw [List.getD_eq_getElem?_getD, List.getElem?_eq_getElem (by lia)]
   rfl
 refine ⟨.p (.int (fpl qs B : Int)), ?_, ?_⟩
 · refine cKw_of (vs := [.p (.lst ((fQ qs).map rowP)), .p (.int (-2 * B * fw qs B))]) (ps := [.lst ((fQ qs).map rowP), .int (-2 * B * fw qs B)]) (rest := []) (cCons_of rfl (cCons_of (lift2_of (a := .int (-2 * B)) (b := .int (fw qs B)) (lift2_of (a := .int (-2)) (b := .int B) rfl rfl rfl) (hwb rfl rfl) ?_) rfl)) rfl rfl ?_
   · (delta mulP; dsimp only); rw [if_pos (by lia)]
   · exact bisK_of (keysOf_map (h := rowP) (k := fun q => -q.1) fun q hq => by
       show lamK (lift1 negP (cSub (cV 0) (cK (.int 0)))) [] [rowP q] = _
       exact lamK_of (lift1_of (a := .int q.1) (sub_tup0 (a := .int q.1) (b := .int q.2) rfl) rfl) rfl) (fQ_pw1 hR0 hR1 k4) (by rw [List.length_map]; lia) (Nat.le_of_ble_eq_true rfl)
 refine ⟨.p (.int (fag qs B)), ?_, ?_⟩
 · refine lift2_of (a := .int (cnt ((fQ qs).map fun q => if q.2 < 0 then -q.2 else q.2) (fw qs B) : Int)) (b := .int 1) (cKw_of (vs := [.p (.lst ((fQ qs).map rowP)), .p (.int (fw qs B))]) (ps := [.lst ((fQ qs).map rowP), .int (fw qs B)]) (rest := []) (cCons_of rfl (cCons_of (hwb rfl rfl) rfl)) rfl rfl ?_) rfl rfl
   exact bisK_of (keysOf_map (h := rowP) (k := fun q => if q.2 < 0 then -q.2 else q.2) fun q hq => by
       show lamK (cApp absA (cCons (cSub (cV 0) (cK (.int 1))) cNil)) [] [rowP q] = _
       exact lamK_of (cApp_of (vs := [.p (.int q.2)]) (cCons_of (sub_tup1 (a := .int q.1) (b := .int q.2) rfl) rfl) rfl) rfl) (fQ_pw2 hR0 hR1 k4) (by rw [List.length_map]; lia) (Nat.le_of_ble_eq_true rfl)
 have hrow : ∀ {σ : St}, cV 8 σ = some (.p (.lst ((fQ qs).map rowP))) → cV 11 σ = some (.p (.int (fpl qs B : Int))) → cSub (cV 8) (cV 11) σ = some (.p (rowP (((fQ qs)[fpl qs B]?).getD (0, 0)))) := fun {σ} h8 h11 => by
   refine cSub_of h8 h11 (by lia) ?_
   show (seqIndex? (fpl qs B : Int) ((fQ qs).map rowP).length).bind (((fQ qs).map rowP)[·]?) = _
   rw [idx_pos (by rw [List.length_map]; exact k8), Option.bind_some, List.getElem?_map, List.getElem?_eq_getElem k8]
   rfl
 refine ⟨[.int (fb qs B : Int), .bool ((fpl qs B : Int) == fag qs B), .int (((fQ qs)[fpl qs B]?).getD (0, 0)).1, .int (((fQ qs)[fpl qs B]?).getD (0, 0)).2], ?_, rfl⟩
 exact nLst_of (vs := [.p (.int (fb qs B : Int)), .p (.bool ((fpl qs B : Int) == fag qs B)), .p (.int (((fQ qs)[fpl qs B]?).getD (0, 0)).1), .p (.int (((fQ qs)[fpl qs B]?).getD (0, 0)).2)]) (cCons_of rfl (cCons_of (lift2_of (a := .int (fpl qs B : Int)) (b := .int (fag qs B)) rfl rfl rfl) (cCons_of (sub_tup0 (hrow rfl rfl)) (cCons_of (sub_tup1 (hrow rfl rfl)) rfl)))) rfl (by show (4 : Nat) ≤ 1000; lia)
noncomputable abbrev cl (x : Str) : List Nat := x.cps.toList
theorem cl_len (x : Str) : x.length = (cl x).length := by simp [Str.length]
theorem cl_ext {x y : Str} (h : cl x = cl y) : x = y := Str.ext' (Array.toList_inj.mp h)
theorem cl_app (x y : Str) : cl (x ++ y) = cl x ++ cl y := by
 show (x.cps ++ y.cps).toList = _
 simp
theorem from_nat {n i : Nat} : fromIndex n (i : Int) = i := by unfold fromIndex; lia
theorem find3_at {x : Str} {c i : Nat} {pre post : List Nat} (h : cl x = pre ++ c :: post) (hi : i ≤ pre.length) (hn : c ∉ pre.drop i) : Txt.find3 x ⟨#[c]⟩ (i : Int) = (pre.length : Int) := by
 have hk : (cl x)[pre.length]? = some c := by rw [h]; simp
 have hkl : pre.length < x.length := by rw [cl_len, h]; simp
 have hg := StrLaws.getD_of_getElem? hk
 rcases StrLaws.find3_spec x c (i : Int) with ⟨_, h2⟩ | ⟨k, h1, h2, h3, h4, h5⟩
 · exact absurd hg (h2 pre.length (by rw [from_nat]; exact hi) hkl)
 · rw [from_nat] at h2 h5
   rw [h1]
   by_cases hlt : pre.length < k
   · exact absurd hg (h5 pre.length hi hlt)
   · by_cases hgt : k < pre.length
     · have e : (cl x)[k]? = some c := StrLaws.getElem?_of_getD h3 h4
       rw [h, List.getElem?_append_left hgt] at e
       refine absurd ?_ hn
       refine List.mem_of_getElem? (i := k - i) ?_
       rw [List.getElem?_drop, show i + (k - i) = k by lia]
       exact e
     · congr 1; lia
theorem find3_no {x : Str} {c i : Nat} (hn : c ∉ (cl x).drop i) : Txt.find3 x ⟨#[c]⟩ (i : Int) = -1 := by
 rcases StrLaws.find3_spec x c (i : Int) with ⟨h1, _⟩ | ⟨k, h1, h2, h3, h4, h5⟩
 · exact h1
 · rw [from_nat] at h2
   have e := StrLaws.getElem?_of_getD h3 h4
   refine absurd ?_ hn
   refine List.mem_of_getElem? (i := k - i) ?_
   rw [List.getElem?_drop, show i + (k - i) = k by lia]
   exact e
theorem find_0 (x y : Str) : Txt.find x y = Txt.find3 x y ((0 : Nat) : Int) := by
 unfold Txt.find Txt.find3
 rw [from_nat]
 generalize Builtin.Str.occurrences x y 0 x.length 1 = l
 cases l <;> rfl
theorem slice_cl {x : Str} {a b : Nat} (h : a ≤ b) (hb : b ≤ (cl x).length) : cl (Txt.slice x (some (a : Int)) (some (b : Int))) = ((cl x).drop a).take (b - a) := by
 have e := StrLaws.sliceText_plain (x := x) (i := (a : Int)) (j := (b : Int)) ⟨by exact r6, by lia, by have hb' : b ≤ x.cps.toList.length := hb; lia⟩
 have e' : Txt.slice x (some (a : Int)) (some (b : Int)) = _ := e
 rw [e']
 simp only [cl, List.toList_toArray, Int.toNat_natCast]
 congr 1; lia
theorem slice_cl0 {x : Str} {b : Nat} (hb : b ≤ (cl x).length) : cl (Txt.slice x none (some (b : Int))) = (cl x).take b := by
 have e0 : Txt.slice x none (some (b : Int)) = Txt.slice x (some ((0 : Nat) : Int)) (some (b : Int)) := by
   unfold Txt.slice
   rw [StrLaws.sliceIdx_none_lo]; rfl
 rw [e0, slice_cl (Nat.zero_le _) hb]
 simp
noncomputable def joinL (c : Nat) : List (List Nat) → List Nat
 | [] => []
 | [x] => x
 | x :: y :: r => x ++ c :: joinL c (y :: r)
theorem join_cl {c : Nat} : ∀ ps : List Str, cl (Str.join ⟨#[c]⟩ ps) = joinL c (ps.map cl)
 | [] => rfl
 | [x] => rfl
 | x :: y :: r => by
   show cl (x ++ ⟨#[c]⟩ ++ Str.join ⟨#[c]⟩ (y :: r)) = _
   rw [cl_app, cl_app, join_cl (y :: r)]
   show (cl x ++ [c]) ++ joinL c ((y :: r).map cl) = cl x ++ c :: joinL c ((y :: r).map cl)
   simp
theorem app_inj {c : Nat} : ∀ {a b p q : List Nat}, c ∉ a → c ∉ b → a ++ c :: p = b ++ c :: q → a = b ∧ p = q
 | [], [], _, _, _, _, h => by simp at h; exact ⟨rfl, h⟩
 | [], y :: b, p, q, _, hb, h => by simp at h; exact absurd (h.1 ▸ .head _) hb
 | x :: a, [], p, q, ha, _, h => by simp at h; exact absurd (h.1 ▸ .head _) ha
 | x :: a, y :: b, p, q, ha, hb, h => by
   simp only [List.cons_append, List.cons.injEq] at h
   obtain ⟨e, e'⟩ := app_inj (fun m => ha (.tail _ m)) (fun m => hb (.tail _ m)) h.2
   exact ⟨by rw [h.1, e], e'⟩
theorem join_inj {c : Nat} : ∀ {ps qs : List (List Nat)}, ps ≠ [] → qs ≠ [] → (∀ p ∈ ps, c ∉ p) → (∀ q ∈ qs, c ∉ q) → joinL c ps = joinL c qs → ps = qs
 | [], _, h, _, _, _, _ => absurd rfl h
 | _ :: _, [], _, h, _, _, _ => absurd rfl h
 | [x], [y], _, _, _, _, h => by rw [show x = y from h]
 | [x], y :: z :: r, _, _, hp, _, h => by
   have h : x = y ++ c :: joinL c (z :: r) := h
   exact absurd (by rw [h]; simp) (hp x (.head _))
 | x :: z :: r, [y], _, _, _, hq, h => by
   have h : x ++ c :: joinL c (z :: r) = y := h
   exact absurd (by rw [← h]; simp) (hq y (.head _))
 | x :: z :: r, y :: w :: t, _, _, hp, hq, h => by
   have h : x ++ c :: joinL c (z :: r) = y ++ c :: joinL c (w :: t) := h
   obtain ⟨e1, e2⟩ := app_inj (hp x (.head _)) (hq y (.head _)) h
   rw [e1, join_inj (by simp) (by simp) (fun p hp' => hp p (.tail _ hp')) (fun q hq' => hq q (.tail _ hq')) e2]
theorem split_cl {x : Str} {c : Nat} {ps : List (List Nat)} (h : cl x = joinL c ps) (hne : ps ≠ []) (hf : ∀ p ∈ ps, c ∉ p) : (Txt.split x ⟨#[c]⟩).map cl = ps := by
 have hs : Txt.split x ⟨#[c]⟩ ≠ [] := by
   intro e
   have h1 := StrLaws.join_split x ⟨#[c]⟩
   rw [e] at h1
   have h2 : cl x = [] := by rw [← h1]; rfl
   unfold Txt.split at e
   split at e
   · cases e
   · split at e
     · cases e
     · rename_i hh
       have : x.length = 0 := by rw [cl_len, h2]; rfl
       refine hh ?_
       rcases StrLaws.occ_head x ⟨#[c]⟩ (x.length + 1) (by lia) with ⟨h0, _⟩ | ⟨i, r, h0, hA, _⟩
       · rw [h0]; rfl
       · have := hA.1
         have e1 : (⟨#[c]⟩ : Str).length = 1 := rfl
         lia
 refine join_inj (c := c) (by simpa using hs) hne (fun p hp => ?_) hf ?_
 · obtain ⟨s, hs', rfl⟩ := List.mem_map.mp hp
   exact StrLaws.split_free x c s hs'
 · rw [← join_cl, StrLaws.join_split, h]
theorem strs_cl {l : List Str} {ps : List (List Nat)} (h : l.map cl = ps) : l = ps.map fun p => ⟨p.toArray⟩ := by
 subst h
 rw [List.map_map]
 have : ((fun p => (⟨p.toArray⟩ : Str)) ∘ cl) = id := by funext s; exact cl_ext (by simp [cl])
 rw [this, List.map_id]
theorem cl_lit229 : cl (Str.ofString "229") = [50, 50, 57] := by decide +kernel
theorem one_lp : Str.ofString "(" = ⟨#[40]⟩ := by decide +kernel
theorem one_rp : Str.ofString ")" = ⟨#[41]⟩ := by decide +kernel
theorem sub_chr {f g : St → Option V} {σ : St} {x : Str} {k c : Nat} (hf : f σ = some (.p (.str x))) (hg : g σ = some (.p (.int (k : Int)))) (hl : x.length ≤ 1000) (hc : (cl x)[k]? = some c) : cSub f g σ = some (.p (.str ⟨#[c]⟩)) := by
 have hk : k < (cl x).length := (List.getElem?_eq_some_iff.mp hc).1
 have hk' : k < x.length := by rw [cl_len]; exact hk
 refine cSub_of hf hg (by lia) ?_
 show ((seqIndex? (k : Int) x.length).bind (x.cps[·]?)).map (fun c => P.str ⟨#[c]⟩) = _
 rw [idx_pos hk', Option.bind_some, ← Array.getElem?_toList]
 have : x.cps.toList[k]? = some c := hc
 rw [this]; rfl
noncomputable abbrev σP (x : Str) : St := St.of [.str x, .tup [.str (Str.ofString "peer"), .int 21]] 9
noncomputable def Starts (x : Str) (b : Bool) : Prop := x.length ≤ 1000 ∧ 3 ≤ (cl x).length ∧ ((cl x).take 3 == [50, 50, 57]) = b
theorem start_of {x : Str} {b : Bool} (h : Starts x b) : (cB (lift2 neP (cSS (cV 0) kNo (kInt (cK (.int 3)))) (cK (.str (Str.ofString "229"))))) (σP x) = some (!b) := by
 obtain ⟨h1, h2, h3⟩ := h
 refine cB_of (lift2_of (a := .str (Txt.slice x none (some 3))) (b := .str (Str.ofString "229")) ?_ rfl ?_)
 · show (if x.length ≤ 1000 then some (V.p (P.str (Txt.slice x none (some 3)))) else none) = _
   rw [if_pos h1]
 · show some (P.bool (Txt.slice x none (some 3) != Str.ofString "229")) = _
   have e : cl (Txt.slice x none (some 3)) = (cl x).take 3 := slice_cl0 (b := 3) h2
   congr 2
   cases b with
   | true =>
     have : Txt.slice x none (some 3) = Str.ofString "229" := cl_ext (by rw [e, cl_lit229]; simpa using h3)
     rw [this]; simp
   | false =>
     have : Txt.slice x none (some 3) ≠ Str.ofString "229" := fun z => by
       rw [z, cl_lit229] at e
       rw [← e] at h3
       revert h3; decide
     simpa using this
theorem port_reply {x : Str} (h : Starts x false) : PortIs x (.lst [.str (Str.ofString "reply"), .str x]) :=
 ⟨true, start_of h, x, rfl, rfl⟩
theorem left_of {x : Str} {pre post : List Nat} (h : cl x = pre ++ 40 :: post) (hn : 40 ∉ pre) : (findA (cV 0) (cCons (cK (.str (Str.ofString "("))) cNil)) (σP x) = some (.p (.int (pre.length : Int))) := by
 show some (V.p (P.int (Txt.find x (Str.ofString "(")))) = _
 rw [one_lp, find_0, find3_at h (Nat.zero_le _) (by simpa using hn)]
theorem port_no1 {x : Str} (h : Starts x true) (hn : 40 ∉ cl x) : PortIs x (.lst [.str (Str.ofString "proto"), .str x]) := by
 refine ⟨false, start_of h, .p (.int (-1)), ?_, true, rfl, x, rfl, rfl⟩
 show some (V.p (P.int (Txt.find x (Str.ofString "(")))) = _
 rw [one_lp, find_0, find3_no (by simpa using hn)]
noncomputable abbrev σL (x : Str) (l : Nat) : St := (σP x).put 2 (.p (.int (l : Int)))
theorem left_ok {x : Str} {l : Nat} : (cB (lift2 ltP (cV 2) (cK (.int 0)))) (σL x l) = some false := by
 refine cB_of (lift2_of (a := .int (l : Int)) (b := .int 0) rfl rfl ?_)
 show some (P.bool (decide ((l : Int) < 0))) = _
 rw [decide_eq_false (by lia)]
theorem port_no2 {x : Str} {pre post : List Nat} (h : Starts x true) (hx : cl x = pre ++ 40 :: post) (h1 : 40 ∉ pre) (h2 : 41 ∉ post) : PortIs x (.lst [.str (Str.ofString "proto"), .str x]) := by
 refine ⟨false, start_of h, .p (.int (pre.length : Int)), left_of hx h1, false, left_ok, .p (.int (-1)), ?_, true, rfl, x, rfl, rfl⟩
 show some (V.p (P.int (Txt.find3 x (Str.ofString ")") ((pre.length : Int) + 1)))) = _
 have e : ((pre.length : Int) + 1) = ((pre.length + 1 : Nat) : Int) := rfl
 rw [one_rp, e, find3_no (by
   rw [hx, show pre ++ 40 :: post = (pre ++ [40]) ++ post by simp, List.drop_left' (by simp)]
   exact h2)]
structure Mid3 (x : Str) (pre mid post : List Nat) (a b : Nat) : Prop where
 st : Starts x true
 x : cl x = pre ++ 40 :: (mid ++ 41 :: post)
 h1 : 40 ∉ pre
 h2 : 41 ∉ mid
 fst : mid[0]? = some a
 lst : mid[mid.length - 1]? = some b
noncomputable abbrev σR (x : Str) (l r : Nat) : St := (σL x l).put 3 (.p (.int (r : Int)))
section
variable {x : Str} {pre mid post : List Nat} {a b : Nat}
theorem Mid3.right (M : Mid3 x pre mid post a b) : (findA (cV 0) (cCons (cK (.str (Str.ofString ")"))) (cCons (lift2 addP (cV 2) (cK (.int 1))) cNil))) (σL x pre.length) = some (.p (.int ((pre.length + 1 + mid.length : Nat) : Int))) := by
 show some (V.p (P.int (Txt.find3 x (Str.ofString ")") ((pre.length : Int) + 1)))) = _
 have e : ((pre.length : Int) + 1) = ((pre.length + 1 : Nat) : Int) := rfl
 have hx : cl x = (pre ++ 40 :: mid) ++ 41 :: post := by rw [M.x]; simp
 rw [one_rp, e, find3_at hx (by simp) (by
   rw [show pre ++ 40 :: mid = (pre ++ [40]) ++ mid by simp, List.drop_left' (by simp)]
   exact M.h2)]
 simp; lia
theorem Mid3.mlen (M : Mid3 x pre mid post a b) : 1 ≤ mid.length := by
 have := (List.getElem?_eq_some_iff.mp M.fst).1; assumption
theorem Mid3.at0 (M : Mid3 x pre mid post a b) : (cl x)[pre.length + 1]? = some a := by
 rw [M.x, show pre ++ 40 :: (mid ++ 41 :: post) = (pre ++ [40]) ++ (mid ++ 41 :: post) by simp, List.getElem?_append_right (by simp)]
 have := M.mlen
 have e0 : pre.length + 1 - (pre ++ [(40 : Nat)]).length = 0 := by simp
 rw [e0, List.getElem?_append_left (by assumption)]
 exact M.fst
theorem Mid3.at1 (M : Mid3 x pre mid post a b) : (cl x)[pre.length + mid.length]? = some b := by
 have hm := M.mlen
 rw [M.x, show pre ++ 40 :: (mid ++ 41 :: post) = (pre ++ [40]) ++ (mid ++ 41 :: post) by simp, List.getElem?_append_right (by simp; assumption)]
 have e0 : pre.length + mid.length - (pre ++ [(40 : Nat)]).length = mid.length - 1 := by simp; lia
 rw [e0, List.getElem?_append_left (by lia)]
 exact M.lst
theorem Mid3.marks (M : Mid3 x pre mid post a b) : (cSub (cV 0) (lift2 addP (cV 2) (cK (.int 1)))) (σR x pre.length (pre.length + 1 + mid.length)) = some (.p (.str ⟨#[a]⟩)) ∧ (cSub (cV 0) (lift2 subP (cV 3) (cK (.int 1)))) (σR x pre.length (pre.length + 1 + mid.length)) = some (.p (.str ⟨#[b]⟩)) := by
 refine ⟨sub_chr (k := pre.length + 1) rfl rfl M.st.1 M.at0, sub_chr (k := pre.length + mid.length) rfl ?_ M.st.1 M.at1⟩
 refine lift2_of (a := .int ((pre.length + 1 + mid.length : Nat) : Int)) (b := .int 1) rfl rfl ?_
 show some (P.int (((pre.length + 1 + mid.length : Nat) : Int) - 1)) = _
 congr 2; lia
theorem Mid3.rok (M : Mid3 x pre mid post a b) : (cB (lift2 ltP (cV 3) (cK (.int 0)))) (σR x pre.length (pre.length + 1 + mid.length)) = some false := by
 refine cB_of (lift2_of (a := .int ((pre.length + 1 + mid.length : Nat) : Int)) (b := .int 0) rfl rfl ?_)
 show some (P.bool (decide (((pre.length + 1 + mid.length : Nat) : Int) < 0))) = _
 rw [decide_eq_false (by lia)]
theorem port_no3 (M : Mid3 x pre mid post a b) (h : a ≠ b) : PortIs x (.lst [.str (Str.ofString "proto"), .str x]) := by
 refine ⟨false, start_of M.st, .p (.int (pre.length : Int)), left_of M.x M.h1, false, left_ok, .p (.int ((pre.length + 1 + mid.length : Nat) : Int)), M.right, false, M.rok, true, ?_, x, rfl, rfl⟩
 refine cB_of (lift2_of M.marks.1 M.marks.2 ?_)
 show some (P.bool ((⟨#[a]⟩ : Str) != ⟨#[b]⟩)) = _
 have : (⟨#[a]⟩ : Str) ≠ ⟨#[b]⟩ := fun z => h (by injection z with z; simpa using z)
 congr 2; simpa using this
theorem Mid3.mids (M : Mid3 x pre mid post a b) : cl (Txt.slice x (some ((pre.length + 1 : Nat) : Int)) (some ((pre.length + 1 + mid.length : Nat) : Int))) = mid := by
 have hx : cl x = (pre ++ [40]) ++ (mid ++ 41 :: post) := by rw [M.x]; simp
 rw [slice_cl (by lia) (by rw [hx]; simp; lia), hx, List.drop_left' (by simp)]
 rw [show pre.length + 1 + mid.length - (pre.length + 1) = mid.length by lia]
 simp
theorem Mid3.parts (M : Mid3 x pre mid post a a) {ps : List (List Nat)} (h : mid = joinL a ps) (hne : ps ≠ []) (hf : ∀ p ∈ ps, a ∉ p) :
   (splitA (cSS (cV 0) (kInt (lift2 addP (cV 2) (cK (.int 1)))) (kInt (cV 3))) (cSub (cV 0) (lift2 addP (cV 2) (cK (.int 1))))) (σR x pre.length (pre.length + 1 + mid.length)) = some (.p (.lst (ps.map fun p => .str ⟨p.toArray⟩))) := by
 have e1 : (cSS (cV 0) (kInt (lift2 addP (cV 2) (cK (.int 1)))) (kInt (cV 3))) (σR x pre.length (pre.length + 1 + mid.length)) = some (.p (.str (Txt.slice x (some ((pre.length + 1 : Nat) : Int)) (some ((pre.length + 1 + mid.length : Nat) : Int))))) := by
   show (if x.length ≤ 1000 then some (V.p (P.str (Txt.slice x (some ((pre.length : Int) + 1)) (some ((pre.length + 1 + mid.length : Nat) : Int))))) else none) = _
   rw [if_pos M.st.1]; rfl
 unfold splitA
 rw [e1, M.marks.1]
 have hl : (Txt.slice x (some ((pre.length + 1 : Nat) : Int)) (some ((pre.length + 1 + mid.length : Nat) : Int))).length ≤ 1000 := by
   rw [cl_len, M.mids]
   have := M.st.1
   rw [cl_len, M.x] at this
   simp at this; lia
 show (if _ ∧ (⟨#[a]⟩ : Str).length = 1 then some (V.p (P.lst ((Txt.split _ ⟨#[a]⟩).map P.str))) else none) = _
 rw [if_pos ⟨hl, rfl⟩]
 have := strs_cl (split_cl (c := a) (ps := ps) (by rw [M.mids]; exact h) hne hf)
 rw [this, List.map_map]; rfl
theorem same_marks (M : Mid3 x pre mid post a a) : (cB (lift2 neP (cSub (cV 0) (lift2 addP (cV 2) (cK (.int 1)))) (cSub (cV 0) (lift2 subP (cV 3) (cK (.int 1)))))) (σR x pre.length (pre.length + 1 + mid.length)) = some false := by
 refine cB_of (lift2_of M.marks.1 M.marks.2 ?_)
 show some (P.bool ((⟨#[a]⟩ : Str) != ⟨#[a]⟩)) = _
 simp
theorem port_no5 (M : Mid3 x pre mid post a a) {ps : List (List Nat)} (h : mid = joinL a ps) (hne : ps ≠ []) (hf : ∀ p ∈ ps, a ∉ p) (h5 : ps.length ≠ 5) (hl : ps.length ≤ 1000) : PortIs x (.lst [.str (Str.ofString "proto"), .str x]) := by
 refine ⟨false, start_of M.st, .p (.int (pre.length : Int)), left_of M.x M.h1, false, left_ok, .p (.int ((pre.length + 1 + mid.length : Nat) : Int)), M.right, false, M.rok, false, same_marks M, .p (.lst (ps.map fun p => .str ⟨p.toArray⟩)), M.parts h hne hf, true, ?_, x, rfl, rfl⟩
 refine cB_of (lift2_of (a := .int (ps.length : Int)) (b := .int 5) (cApp_of (vs := [.p (.lst (ps.map fun p => .str ⟨p.toArray⟩))]) rfl ?_) rfl ?_)
 · show (if (ps.map fun p => P.str ⟨p.toArray⟩).length ≤ 100000 then some (P.int (ps.map fun p => P.str ⟨p.toArray⟩).length) else none) = _
   rw [List.length_map, if_pos (by exact n9 ‹_› (by decide))]
 · show some (P.bool ((ps.length : Int) != 5)) = _
   have : (ps.length : Int) ≠ 5 := by lia
   congr 2; simpa using this
theorem port_5 (M : Mid3 x pre mid post a a) {p0 p1 p2 p3 p4 : List Nat} {r : P} (h : mid = joinL a [p0, p1, p2, p3, p4]) (hf : ∀ p ∈ [p0, p1, p2, p3, p4], a ∉ p)
   (hr : (∃ n, p3.length ≤ 640 ∧ PySem.intText? ⟨p3.toArray⟩ = some n ∧ r = .tup [.str (Str.ofString "peer"), .int n]) ∨ (p3 = [120] ∧ r = .lst [.str (Str.ofString "number"), .str x])) : PortIs x r := by
 refine ⟨false, start_of M.st, .p (.int (pre.length : Int)), left_of M.x M.h1, false, left_ok, .p (.int ((pre.length + 1 + mid.length : Nat) : Int)), M.right, false, M.rok, false, same_marks M, .p (.lst ([p0, p1, p2, p3, p4].map fun p => .str ⟨p.toArray⟩)), M.parts h (by simp) hf, false, rfl, .p (.str (Str.ofString "peer")), rfl, ⟨p3.toArray⟩, rfl, ?_⟩
 rcases hr with ⟨n, h1, h2, rfl⟩ | ⟨rfl, rfl⟩
 · refine .inl ⟨n, by rw [cl_len]; simpa [cl] using h1, h2, ?_⟩
   exact ⟨.p (.tup [.str (Str.ofString "peer"), .int n]), cTup_of (vs := [.p (.str (Str.ofString "peer")), .p (.int n)]) rfl rfl (by show (2 : Nat) ≤ 1000; decide), rfl⟩
 · exact .inr ⟨rfl, rfl⟩
end
theorem last_snoc {l : List Nat} {m : Nat} : (l ++ [m])[(l ++ [m]).length - 1]? = some m := by simp
structure In9 (m : Nat) (hs ds : List Nat) (n : Int) (I : Str) : Prop where
 mm : m = 124 ∨ m = 33 ∨ m = 59 ∨ m = 126
 hh : hs = [] ∨ hs = [104]
 d : ∀ c ∈ ds, 48 ≤ c ∧ c ≤ 57
 l : ds.length ≤ 10
 nn : PySem.intText? ⟨ds.toArray⟩ = some n
 ii : cl I = m :: (hs ++ m :: m :: (ds ++ [m]))
section
variable {m : Nat} {hs ds : List Nat} {n : Int} {I : Str}
theorem In9.len (H : In9 m hs ds n I) : (cl I).length ≤ 15 := by
 have := H.l
 rw [H.ii]
 rcases H.hh with rfl | rfl <;> simp <;> lia
theorem In9.no (H : In9 m hs ds n I) {c : Nat} (hc : c = 40 ∨ c = 41) : c ∉ cl I := by
 rw [H.ii]
 have hd : c ∉ ds := fun h => by have := H.d c h; lia
 have hm : c ≠ m := by have := H.mm; lia
 have hh : c ∉ hs := by rcases H.hh with rfl | rfl <;> simp; lia
 simp [hm, hh, hd]
theorem In9.free (H : In9 m hs ds n I) : m ∉ hs ∧ m ∉ ds := by
 have hm := H.mm
 refine ⟨?_, fun h => by have := H.d m h; lia⟩
 rcases H.hh with rfl | rfl <;> simp; lia
theorem In9.join (H : In9 m hs ds n I) : cl I = joinL m [[], hs, [], ds, []] := by rw [H.ii]; rfl
theorem In9.fst (H : In9 m hs ds n I) : (cl I)[0]? = some m := by rw [H.ii]; rfl
theorem In9.lst (H : In9 m hs ds n I) : (cl I)[(cl I).length - 1]? = some m := by
 have e : cl I = (m :: (hs ++ m :: m :: ds)) ++ [m] := by rw [H.ii]; simp
 rw [e]; exact last_snoc
theorem starts_of {x : Str} {b : Bool} {pre : List Nat} {rest : List Nat} (h : cl x = pre ++ rest) (hp : 3 ≤ pre.length) (hl : (cl x).length ≤ 1000) (hb : (pre.take 3 == [50, 50, 57]) = b) : Starts x b := by
 refine ⟨by rw [cl_len]; exact hl, by rw [h]; simp; lia, ?_⟩
 rw [h, List.take_append_of_le_length hp]; exact hb
theorem c1 : cl (Str.ofString "227 (") = [50, 50, 55, 32, 40] := by decide +kernel
theorem c2 : cl (Str.ofString "229 ") = [50, 50, 57, 32] := by decide +kernel
theorem c3 : cl (Str.ofString "229 (") = [50, 50, 57, 32, 40] := by decide +kernel
theorem c4 : cl (Str.ofString ")") = [41] := by decide +kernel
theorem c5 : cl (Str.ofString "x)") = [120, 41] := by decide +kernel
theorem c6 : cl (Str.ofString "229 272)") = [50, 50, 57, 32, 50, 55, 50, 41] := by decide +kernel
theorem c7 : cl (Str.ofString "x") = [120] := by decide +kernel
theorem c8 : cl (Str.ofString "229 Entering ) (") = [50, 50, 57, 32, 69, 110, 116, 101, 114, 105, 110, 103, 32, 41, 32, 40] := by decide +kernel
theorem c9 : cl (Str.ofString ") (a)") = [41, 32, 40, 97, 41] := by decide +kernel
theorem In9.good (H : In9 m hs ds n I) : PortIs (Str.ofString "229 Entering ) (" ++ I ++ Str.ofString ") (a)") (.tup [.str (Str.ofString "peer"), .int n]) := by
 have e : cl (Str.ofString "229 Entering ) (" ++ I ++ Str.ofString ") (a)") = [50, 50, 57, 32, 69, 110, 116, 101, 114, 105, 110, 103, 32, 41, 32] ++ 40 :: (cl I ++ 41 :: [32, 40, 97, 41]) := by
   rw [cl_app, cl_app, c8, c9]; simp
 have hl : I.cps.size ≤ 15 := by have := H.len; simpa using this
 refine port_5 (pre := [50, 50, 57, 32, 69, 110, 116, 101, 114, 105, 110, 103, 32, 41, 32]) (mid := cl I) (post := [32, 40, 97, 41]) ⟨starts_of (pre := [50, 50, 57, 32, 69, 110, 116, 101, 114, 105, 110, 103, 32, 41, 32]) e (by decide) (by rw [e]; simp; exact n9 ‹_› (by decide)) (by decide), e, by decide, H.no (.inr rfl), H.fst, H.lst⟩ H.join ?_ (.inl ⟨n, by have := H.l; exact n9 ‹_› (by decide), H.nn, rfl⟩)
 obtain ⟨f1, f2⟩ := H.free
 intro p hp
 simp only [List.mem_cons, List.not_mem_nil, or_false] at hp
 rcases hp with rfl | rfl | rfl | rfl | rfl <;> simp [f1, f2]
theorem In9.odd0 (H : In9 m hs ds n I) : PortIs (Str.ofString "227 (" ++ I ++ Str.ofString ")") (.lst [.str (Str.ofString "reply"), .str (Str.ofString "227 (" ++ I ++ Str.ofString ")")]) := by
 have e : cl (Str.ofString "227 (" ++ I ++ Str.ofString ")") = [50, 50, 55, 32, 40] ++ (cl I ++ [41]) := by rw [cl_app, cl_app, c1, c4]; simp
 have hl : I.cps.size ≤ 15 := by have := H.len; simpa using this
 exact port_reply (starts_of e (by decide) (by rw [e]; simp; exact n9 ‹_› (by decide)) (by decide))
theorem In9.odd1 (H : In9 m hs ds n I) : PortIs (Str.ofString "229 " ++ I ++ Str.ofString ")") (.lst [.str (Str.ofString "proto"), .str (Str.ofString "229 " ++ I ++ Str.ofString ")")]) := by
 have e : cl (Str.ofString "229 " ++ I ++ Str.ofString ")") = [50, 50, 57, 32] ++ (cl I ++ [41]) := by rw [cl_app, cl_app, c2, c4]; simp
 have hl : I.cps.size ≤ 15 := by have := H.len; simpa using this
 have hn := H.no (c := 40) (.inl rfl)
 exact port_no1 (starts_of e (by decide) (by rw [e]; simp; exact n9 ‹_› (by decide)) (by decide)) (by rw [e]; simp [hn])
theorem In9.odd2 (H : In9 m hs ds n I) : PortIs (Str.ofString "229 (" ++ I) (.lst [.str (Str.ofString "proto"), .str (Str.ofString "229 (" ++ I)]) := by
 have e : cl (Str.ofString "229 (" ++ I) = [50, 50, 57, 32] ++ 40 :: cl I := by rw [cl_app, c3]; simp
 have hl : I.cps.size ≤ 15 := by have := H.len; simpa using this
 exact port_no2 (starts_of e (by decide) (by rw [e]; simp; lia) (by decide)) e (by decide) (H.no (.inr rfl))
theorem In9.odd3 (H : In9 m hs ds n I) : PortIs (Str.ofString "229 (" ++ I ++ Str.ofString "x)") (.lst [.str (Str.ofString "proto"), .str (Str.ofString "229 (" ++ I ++ Str.ofString "x)")]) := by
 have e : cl (Str.ofString "229 (" ++ I ++ Str.ofString "x)") = [50, 50, 57, 32] ++ 40 :: ((cl I ++ [120]) ++ 41 :: []) := by rw [cl_app, cl_app, c3, c5]; simp
 have hl : I.cps.size ≤ 15 := by have := H.len; simpa using this
 have hn := H.no (c := 41) (.inr rfl)
 refine port_no3 (pre := [50, 50, 57, 32]) (mid := cl I ++ [120]) (post := []) (a := m) (b := 120) ⟨starts_of (pre := [50, 50, 57, 32]) e (by decide) (by rw [e]; simp; exact n9 ‹_› (by decide)) (by decide), e, by decide, by simp [hn], ?_, by simp⟩ (by have := H.mm; lia)
 rw [List.getElem?_append_left (by rw [H.ii]; simp)]; exact H.fst
theorem odd4 : PortIs (Str.ofString "229 272)") (.lst [.str (Str.ofString "proto"), .str (Str.ofString "229 272)")]) :=
 port_no1 (starts_of (pre := [50, 50, 57, 32, 50, 55, 50, 41]) (rest := []) (by rw [c6]; rfl) (by decide) (by rw [c6]; decide) (by decide)) (by rw [c6]; decide)
theorem In9.odd5 (H : In9 m hs ds n I) : PortIs (Str.ofString "229 (" ++ ⟨#[m]⟩ ++ I ++ Str.ofString ")") (.lst [.str (Str.ofString "proto"), .str (Str.ofString "229 (" ++ ⟨#[m]⟩ ++ I ++ Str.ofString ")")]) := by
 have e : cl (Str.ofString "229 (" ++ ⟨#[m]⟩ ++ I ++ Str.ofString ")") = [50, 50, 57, 32] ++ 40 :: ((m :: cl I) ++ 41 :: []) := by
   rw [cl_app, cl_app, cl_app, c3, c4, show cl ⟨#[m]⟩ = [m] from rfl]; simp
 have hl : I.cps.size ≤ 15 := by have := H.len; simpa using this
 have hn := H.no (c := 41) (.inr rfl)
 have hm := H.mm
 obtain ⟨f1, f2⟩ := H.free
 refine port_no5 (pre := [50, 50, 57, 32]) (mid := m :: cl I) (post := []) (a := m) ⟨starts_of (pre := [50, 50, 57, 32]) e (by decide) (by rw [e]; simp; lia) (by decide), e, by decide, by simp [hn]; lia, rfl, ?_⟩ (ps := [[], [], hs, [], ds, []]) (by rw [H.join]; rfl) (by simp) ?_ (by simp) (by simp)
 · have e2 : m :: cl I = (m :: m :: (hs ++ m :: m :: ds)) ++ [m] := by rw [H.ii]; simp
   rw [e2]; exact last_snoc
 · intro p hp
   simp only [List.mem_cons, List.not_mem_nil, or_false] at hp
   rcases hp with rfl | rfl | rfl | rfl | rfl | rfl <;> simp [f1, f2]
theorem In9.odd6 (H : In9 m hs ds n I) : PortIs (Str.ofString "229 (" ++ I ++ ⟨#[m]⟩) (.lst [.str (Str.ofString "proto"), .str (Str.ofString "229 (" ++ I ++ ⟨#[m]⟩)]) := by
 have e : cl (Str.ofString "229 (" ++ I ++ ⟨#[m]⟩) = [50, 50, 57, 32] ++ 40 :: (cl I ++ [m]) := by
   rw [cl_app, cl_app, c3, show cl ⟨#[m]⟩ = [m] from rfl]; simp
 have hl : I.cps.size ≤ 15 := by have := H.len; simpa using this
 have hn := H.no (c := 41) (.inr rfl)
 have hm := H.mm
 exact port_no2 (starts_of e (by decide) (by rw [e]; simp; lia) (by decide)) e (by decide) (by simp [hn]; lia)
theorem mul3 : cl (Txt.mul ⟨#[m]⟩ 3) = [m, m, m] := rfl
theorem In9.odd7 (H : In9 m hs ds n I) : PortIs (Str.ofString "229 (" ++ Txt.mul ⟨#[m]⟩ 3 ++ Str.ofString "x" ++ ⟨#[m]⟩ ++ Str.ofString ")") (.lst [.str (Str.ofString "number"), .str (Str.ofString "229 (" ++ Txt.mul ⟨#[m]⟩ 3 ++ Str.ofString "x" ++ ⟨#[m]⟩ ++ Str.ofString ")")]) := by
 have e : cl (Str.ofString "229 (" ++ Txt.mul ⟨#[m]⟩ 3 ++ Str.ofString "x" ++ ⟨#[m]⟩ ++ Str.ofString ")") = [50, 50, 57, 32] ++ 40 :: ([m, m, m, 120, m] ++ 41 :: []) := by
   rw [cl_app, cl_app, cl_app, cl_app, c3, c4, c7, mul3, show cl ⟨#[m]⟩ = [m] from rfl]; simp
 have hm := H.mm
 refine port_5 (pre := [50, 50, 57, 32]) (mid := [m, m, m, 120, m]) (post := []) ⟨starts_of (pre := [50, 50, 57, 32]) e (by decide) (by rw [e]; simp) (by decide), e, by decide, by simp; lia, rfl, rfl⟩ (p0 := []) (p1 := []) (p2 := []) (p3 := [120]) (p4 := []) rfl ?_ (.inr ⟨rfl, rfl⟩)
 intro p hp
 simp only [List.mem_cons, List.not_mem_nil, or_false] at hp
 rcases hp with rfl | rfl | rfl | rfl | rfl <;> simp
 lia
end
noncomputable def wl0 : SW := (wSet 1 (cFz (nSl (cV 0) kNo (kInt (cK (.int 60))) kNo)))
noncomputable def wl4 : SW := (wSet 6 (cK (.int 1)))
noncomputable def wt2 : SW := (wUnp [23, 24] (cApp (opF opD) (cCons (lift2 mulP (cV 22) (cV 9)) (cCons (lift2 mulP (cV 22) (cSub (cV 5) (cV 3))) cNil))))
noncomputable def wt4 : SW := (wAug 24 imulP (cV 22))
noncomputable def wt12 : SW := (wIf (cB (cIn (cV 3) (cV 11))) (wSeq (wIf (cB (lift2V neD (cV 29) (cLst (cCons (cIf (cB (lift2 eqP (cV 28) (cK (.int 0)))) (cK (.str (Str.ofString "reply"))) (cIf (cB (lift2 eqP (cV 28) (cK (.int 7)))) (cK (.str (Str.ofString "number"))) (cK (.str (Str.ofString "proto"))))) (cCons (cSub (cV 27) (cV 28)) cNil))))) (wSeq (wRet (cK (.bool false))) wNil) wNil) wNil) (wSeq (wIf (cOr (cB (lift2V neD (cV 29) (cTup (cCons (cK (.str (Str.ofString "peer"))) (cCons (lift2 addP (lift2 mulP (cV 24) (cK (.int 64))) (cSub (cV 5) (cV 3))) cNil))))) (cOr (cNot (cTr (cApp isIntA (cCons (cSub (cV 29) (cK (.int 1))) (cCons (cK (.raw (.type "int"))) cNil))))) (cKB false))) (wSeq (wRet (cK (.bool false))) wNil) wNil) (wSeq (wUnp [30, 7] (cApp (opF opD) (cCons (cSub (cV 29) (cK (.int 1))) (cCons (cK (.int 64)) cNil)))) (wSeq (wInsort 17 0 opB (cSub (cV 0) (cK (.int 1))) (cCons (cV 19) (cCons (cLst (cCons (cV 30) (cCons (cV 7) cNil))) cNil))) (wSeq (wApp (cV 18) (xOf (cLst (cCons (cV 24) (cCons (cSub (cV 5) (cV 3)) cNil))))) wNil)))))
noncomputable def wl15 : SW := (wForR (fun σ v => some (σ.put 21 v)) (cK (.int 7)) (wSeq wt0 (wSeq wt1 (wSeq wt2 (wSeq wt3 (wSeq wt4 (wSeq wt5 (wSeq wt6 (wSeq wt7 (wSeq wt8 (wSeq wt9 (wSeq wt10 (wSeq wt11 (wSeq wt12 wNil))))))))))))))
noncomputable def wl17 : SW := (wUnp [31, 32, 33, 34] (cApp (opF opF0) (cCons (cV 19) (cCons (cV 8) cNil))))
noncomputable def wl18 : SW := (wIf (cOr (cB (lift2 neP (cV 31) (cV 15))) (cOr (cB (lift2 isNotP (cV 32) (cK (.bool true)))) (cOr (cB (lift2V neD (cApp (opF opD) (cCons (cV 33) (cCons (cV 34) cNil))) (cTup (cCons (cV 9) (cCons (cK (.int 0)) cNil))))) (cKB false)))) (wSeq (wRet (cK (.bool false))) wNil) wNil)
noncomputable def wl19 : SW := (wSet 35 (cK (.int 1)))
noncomputable def wl21 : SW := (wForR (fun σ v => some (σ.put 3 v)) (cK (.int 7)) (wSeq (wUnp [23, 36] (cApp (opF opD) (cCons (cV 34) (cCons (cSub (cV 5) (cV 3)) cNil)))) (wSeq (wIf (cOr (cB (lift2 neP (lift2 addP (lift2 mulP (cV 23) (cSub (cV 5) (cV 3))) (cV 36)) (cV 34))) (cOr (cNot (cCh leP ltP (cK (.int 0)) (cV 36) (cSub (cV 5) (cV 3)))) (cOr (cB (lift2 neP (lift2 eqP (cV 36) (cK (.int 0))) (cIn (cV 3) (cV 17)))) (cKB false)))) (wSeq (wRet (cK (.bool false))) wNil) wNil) wNil)))
theorem W_law_eq : W_law 16 opD opF0 opB = (wSeq wl0 (wSeq wl1 (wSeq wl2 (wSeq wl3 (wSeq wl4 (wSeq wl5 (wSeq wl6 (wSeq wl7 (wSeq wl8 (wSeq wl9 (wSeq wl10 (wSeq wl11 (wSeq wl12 (wSeq wl13 (wSeq wl14 (wSeq wl15 (wSeq wl16 (wSeq wl17 (wSeq wl18 (wSeq wl19 (wSeq wl20 (wSeq wl21 (wSeq wl22 wNil))))))))))))))))))))))) := rfl
theorem law_true {xs : List Int} (h : W_law 16 opD opF0 opB (St.of [.lst (xs.map .int)] 49) (fun fl σ => fl = .ret (.p (.bool true)))) : LawTrue xs :=
 ⟨16, opD, opF0, opB, by decide, by decide, fn_D.mono (by decide), fn_F, fn_B (by decide), h⟩
theorem cV_same {σ : St} {i : Nat} {v : V} (h : i < σ.vals.length) : cV i (σ.put i v) = some v := by
 simp [cV, St.put, h]
theorem cV_diff {σ : St} {i j : Nat} {v : V} (h : i ≠ j) : cV j (σ.put i v) = cV j σ := by
 simp [cV, St.put, List.getElem?_set_ne h]
theorem cV_put {σ : St} {i j : Nat} {v : V} : cV j (σ.put i v) = if i = j then (if i < σ.vals.length then some v else none) else cV j σ := by
 by_cases h : i = j
 · subst h
   by_cases hl : i < σ.vals.length
   · rw [if_pos rfl, if_pos hl, cV_same hl]
   · rw [if_pos rfl, if_neg hl]
     simp [cV, St.put, hl]
 · rw [if_neg h, cV_diff h]
theorem add_len {σ : St} {xs : List P} : (σ.add xs).vals.length = σ.vals.length := rfl
theorem set_len {σ : St} {i : Nat} {xs : List P} : (σ.set i xs).vals.length = σ.vals.length := rfl
theorem add_own {σ : St} {xs : List P} : (σ.add xs).own = σ.own ++ [xs] := rfl
theorem set_own {σ : St} {i : Nat} {xs : List P} : (σ.set i xs).own = σ.own.set i xs := rfl
theorem add_ky {σ : St} {xs : List P} : (σ.add xs).ky = σ.ky := rfl
theorem set_ky {σ : St} {i : Nat} {xs : List P} : (σ.set i xs).ky = σ.ky := rfl
theorem put_len {σ : St} {i : Nat} {v : V} : (σ.put i v).vals.length = σ.vals.length := by simp [St.put]
theorem put_own {σ : St} {i : Nat} {v : V} : (σ.put i v).own = σ.own := rfl
theorem put_ky {σ : St} {i : Nat} {v : V} : (σ.put i v).ky = σ.ky := rfl
theorem cV_add {σ : St} {j : Nat} {xs : List P} : cV j (σ.add xs) = cV j σ := rfl
structure Same (js : List Nat) (σ σ' : St) : Prop where
 len : σ'.vals.length = σ.vals.length
 v : ∀ j, j ∉ js → cV j σ' = cV j σ
 ky : σ'.ky = σ.ky
theorem Same.refl {js : List Nat} {σ : St} : Same js σ σ := ⟨rfl, fun zz zz => rfl, rfl⟩
theorem Same.trans {js : List Nat} {σ σ' σ'' : St} (x : Same js σ σ') (y : Same js σ' σ'') : Same js σ σ'' := ⟨y.len.trans x.len, fun j h => (y.v j h).trans (x.v j h), y.ky.trans x.ky⟩
theorem Same.put {js : List Nat} {σ σ' : St} {i : Nat} {v : V} (x : Same js σ σ') (h : i ∈ js) : Same js σ (σ'.put i v) := ⟨put_len.trans x.len, fun j hj => (cV_diff (i := i) (j := j) fun e => hj (e ▸ h)).trans (x.v j hj), x.ky⟩
theorem Same.set {js : List Nat} {σ σ' : St} {i : Nat} {xs : List P} (x : Same js σ σ') : Same js σ (σ'.set i xs) := ⟨x.len, x.v, x.ky⟩
theorem Same.add {js : List Nat} {σ σ' : St} {xs : List P} (x : Same js σ σ') : Same js σ (σ'.add xs) := ⟨x.len, x.v, x.ky⟩
theorem Same.mono {js js' : List Nat} {σ σ' : St} (x : Same js σ σ') (h : ∀ j ∈ js, j ∈ js') : Same js' σ σ' := ⟨x.len, fun j hj => x.v j fun m => hj (h j m), x.ky⟩
noncomputable def pickI (ns : List Int) (lo hi st : Option Int) : List Int := (sliceRange (sliceBounds lo hi st ns.length).1 (sliceBounds lo hi st ns.length).2.1 (sliceBounds lo hi st ns.length).2.2).filterMap (ns[·]?)
theorem pickP_ints {ns : List Int} {lo hi st : Option Int} : pickP (ns.map .int) lo hi st = (pickI ns lo hi st).map .int := by
 unfold pickP pickI
 rw [List.length_map, List.map_filterMap]
 congr 1
 funext i
 exact List.getElem?_map
theorem pickI_len {ns : List Int} {lo hi st : Option Int} {n : Nat} (h : (sliceRange (sliceBounds lo hi st ns.length).1 (sliceBounds lo hi st ns.length).2.1 (sliceBounds lo hi st ns.length).2.2).length ≤ n) : (pickI ns lo hi st).length ≤ n := Nat.le_trans (List.length_filterMap_le _ _) h
theorem nSl_of {f : St → Option V} {lo hi st : St → Option (Option Int)} {σ : St} {v : V} {xs : List P} {a b c : Option Int} (hf : f σ = some v) (hl : lstOf σ v = some xs) (h1 : lo σ = some a) (h2 : hi σ = some b) (h3 : st σ = some c) (hn : xs.length ≤ 1000) (hc : c ≠ some 0) : nSl f lo hi st σ = some (pickP xs a b c) := by
 unfold nSl
 rw [hf, Option.bind_some, hl, h1, h2, h3]
 exact if_pos ⟨hn, hc⟩
theorem cFz_of {f : St → Option (List P)} {σ : St} {xs : List P} (h : f σ = some xs) : cFz f σ = some (.p (.lst xs)) := by unfold cFz; rw [h]; rfl
theorem kInt_of {f : St → Option V} {σ : St} {k : Int} (h : f σ = some (.p (.int k))) : kInt f σ = some (some k) := by unfold kInt; rw [h]
theorem sub_int {f g : St → Option V} {σ : St} {ns : List Int} {k : Nat} {a : Int} (hf : f σ = some (.p (.lst (ns.map .int)))) (hg : g σ = some (.p (.int (k : Int)))) (hk : k ≤ 1000) (ha : ns[k]? = some a) : cSub f g σ = some (.p (.int a)) := by
 have hl : k < ns.length := (List.getElem?_eq_some_iff.mp ha).1
 refine cSub_of hf hg (by lia) ?_
 show (seqIndex? (k : Int) (ns.map P.int).length).bind ((ns.map P.int)[·]?) = _
 rw [idx_pos (by rw [List.length_map]; exact hl), Option.bind_some, List.getElem?_map, ha]; rfl
theorem compP_all {c : St → Option Bool} {f : St → Option V} {rest : List (Option V)} {own : List (List P)} {ky : Ky} {g : P → P} : ∀ (xs acc : List P), (∀ x ∈ xs, ∀ acc, c ⟨none :: some (.p x) :: rest, own ++ [acc], ky⟩ = some true ∧ f ⟨none :: some (.p x) :: rest, own ++ [acc], ky⟩ = some (.p (g x))) → compP c f rest own ky xs acc = some (acc ++ xs.map g)
 | [], acc, _ => by simp [compP]
 | x :: xs, acc, h => by
   obtain ⟨h1, h2⟩ := h x (.head _) acc
   simp only [compP, h1, h2]
   rw [compP_all xs _ fun y hy => h y (.tail _ hy)]
   simp
noncomputable def l14 : List Int := [11, 13, 17, 19, 23, 29, 31, 37, 41, 43, 47, 53, 59, 61]
noncomputable def win (s : Nat) : List Int := (l14.drop s).take 7
theorem win_pick : ∀ s : Nat, s < 8 → pickI (pickI l14 (some (s : Int)) none none) none (some 7) none = win s := by decide +kernel
theorem win_len : ∀ s, s < 8 → (win s).length = 7 := by decide +kernel
noncomputable def bnd (s : Nat) : Int := prodI (win s) / (4 * ((win s).getD 5 0 * (win s).getD 6 0) ^ 2)
theorem bnd_facts : ∀ s, s < 8 → 1 ≤ bnd s ∧ bnd s < 2 ^ 40 ∧ prodI (win s) < 2 ^ 40 ∧ 0 < (win s).getD 5 0 ∧ (win s).getD 5 0 < 100 ∧ 0 < (win s).getD 6 0 ∧ (win s).getD 6 0 < 100 := by decide +kernel
theorem win_range : ∀ s, s < 8 → ∀ p ∈ win s, 11 ≤ p ∧ p ≤ 61 := by decide +kernel
noncomputable def oC : List Int := [0, 194, 177, 7, 4, 3]
theorem prod_loop {Po : Post} : ∀ (ns : List Int) (acc : Int) (σ : St), (∀ p ∈ ns, 1 ≤ p) → 1 ≤ acc → acc * prodI ns < 2 ^ 64 → σ.vals.length = 50 → cV 6 σ = some (.p (.int acc)) →
   (∀ σ', Same [6, 7] σ σ' → σ'.own = σ.own → cV 6 σ' = some (.p (.int (acc * prodI ns))) → Po .next σ') → wTurns (fun zz => True) (fun σ v => some (σ.put 7 v)) (wSeq (wAug 6 imulP (cV 7)) wNil) (ns.map .int) σ Po
 | [], acc, σ, _, _, _, _, h6, h => by
   have := h σ .refl rfl (by simpa [prodI] using h6)
   exact this
 | p :: ns, acc, σ, hp, ha, hb, hl, h6, h => by
   have hp1 := hp p (.head _)
   have hq := prodI_pos (ps := ns) fun q hq => hp q (.tail _ hq)
   have e : acc * prodI (p :: ns) = acc * p * prodI ns := by show acc * (p * _) = _; rw [Int.mul_assoc]
   have h1 : acc * 1 ≤ acc * p := iml hp1 (by exact q1 ‹_›)
   have h2 : acc * p * 1 ≤ acc * p * prodI ns := iml hq (by lia)
   have hl' : (σ.put 7 (.p (.int p))).vals.length = 50 := by rw [put_len, hl]
   refine ⟨σ.put 7 (.p (.int p)), rfl, .int acc, .int p, .int (acc * p), ?_, cV_same (by lia), ?_, trivial, ?_⟩
   · have := (cV_diff (σ := σ) (i := 7) (j := 6) (v := .p (.int p)) (by decide)).trans h6
     exact join_some this
   · (delta imulP; dsimp only); rw [if_pos (by exact na (by lia))]
   · refine prod_loop ns (acc * p) _ (fun q hq => hp q (.tail _ hq)) (by lia) (by rw [← e]; exact hb) (by rw [put_len, hl']) (cV_same (by lia)) fun σ' S O h6' => ?_
     refine h σ' (((Same.refl.put (by decide)).put (by decide)).trans S) (O.trans rfl) (by rw [e]; exact h6')
structure A1 (σ : St) (c : List Int) (s : Nat) (msg mix : Int) : Prop where
 len : σ.vals.length = 50
 ky : σ.ky = Ky.no
 own : σ.own = [([0, 1, 2, 3, 4, 5, 6] : List Int).map .int, []]
 cl : c.length = 6
 sl : s < 8
 c4 : cV 4 σ = some (.p (.lst (c.map .int)))
 c5 : cV 5 σ = some (.p (.lst ((win s).map .int)))
 c6 : cV 6 σ = some (.p (.int (prodI (win s))))
 c8 : cV 8 σ = some (.p (.int (bnd s)))
 c9 : cV 9 σ = some (.p (.int msg))
 m1 : -(bnd s - 1) ≤ msg
 m2 : msg ≤ bnd s - 1
 c10 : cV 10 σ = some (.own 0)
 c11 : cV 11 σ = some (.own 1)
 c12 : cV 12 σ = some (.p (.int mix))
 x0 : 0 ≤ mix
 x1 : mix < 840
theorem seen_len : ∀ n : Nat, n < 64 → (sliceRange (sliceBounds none (some 60) none n).1 (sliceBounds none (some 60) none n).2.1 (sliceBounds none (some 60) none n).2.2).length ≤ 60 := by decide +kernel
noncomputable def cellsOf (seen : List Int) : List Int := (List.range 6).map fun k => oC.getD k 0 + (pickI seen (some (k : Int)) none (some 6)).sum
noncomputable def gCell (seen : List Int) : P → P
 | .int k => .int (oC.getD k.toNat 0 + (pickI seen (some k) none (some 6)).sum)
 | x => x
theorem rangeP6 : rangeP 0 6 = [.int 0, .int 1, .int 2, .int 3, .int 4, .int 5] := rfl
theorem cells_of {σ : St} {seen : List Int} (h1 : (σ.vals[1]?).join = some (.p (.lst (seen.map .int)))) (h2 : (σ.vals[2]?).join = some (.p (.lst (oC.map .int)))) (hl : seen.length ≤ 1000) :
   (cFz (nComp [none, some 2, some 1] (cKB true) (lift2 addP (cSub (cV 3) (cV 1)) (cApp sumA (cCons (cFz (nSl (cV 4) (kInt (cV 1)) kNo (kInt (cK (.int 6))))) cNil))) (srcR (cK (.int 6))))) σ = some (.p (.lst ((cellsOf seen).map .int))) := by
 have hrest : restOf [none, some 2, some 1] σ = [none, some (.p (.lst (oC.map .int))), some (.p (.lst (seen.map .int)))] := by
   unfold restOf; simp only [List.map_cons, List.map_nil, Option.bind_none, Option.bind_some, h1, h2]
 refine cFz_of ?_
 unfold nComp
 rw [show srcR (cK (.int 6)) σ = some (rangeP 0 6) from rfl]
 show (if (rangeP 0 6).length ≤ 1000 then compP _ _ _ _ _ (rangeP 0 6) [] else none) = _
 rw [if_pos (by decide), hrest, compP_all (g := gCell seen) (rangeP 0 6) [] ?_]
 · rw [rangeP6]; rfl
 · intro x hx acc
   refine ⟨rfl, ?_⟩
   obtain ⟨k, hk, rfl⟩ : ∃ k : Nat, k < 6 ∧ x = .int (k : Int) := by
     rw [rangeP6] at hx
     simp only [List.mem_cons, List.not_mem_nil, or_false] at hx
     rcases hx with rfl | rfl | rfl | rfl | rfl | rfl
     · exact ⟨0, by decide, rfl⟩
     · exact ⟨1, by decide, rfl⟩
     · exact ⟨2, by decide, rfl⟩
     · exact ⟨3, by decide, rfl⟩
     · exact ⟨4, by decide, rfl⟩
     · exact ⟨5, by decide, rfl⟩
   have ho : oC[k]? = some (oC.getD k 0) := by
     have : k < oC.length := hk
     rw [List.getD_eq_getElem?_getD, List.getElem?_eq_getElem this]; rfl
   refine lift2_of (a := .int (oC.getD k 0)) (b := .int (pickI seen (some (k : Int)) none (some 6)).sum) (sub_int (ns := oC) (k := k) rfl rfl (by exact m3 ‹_› (by decide)) ho) (cApp_of (vs := [.p (.lst ((pickI seen (some (k : Int)) none (some 6)).map .int))]) (cCons_of (cFz_of ?_) rfl) ?_) ?_
   · rw [← pickP_ints]
     exact nSl_of (v := .p (.lst (seen.map .int))) rfl rfl (kInt_of rfl) rfl (kInt_of rfl) (by rw [List.length_map]; exact hl) (by simp)
   · show ((some ((pickI seen (some (k : Int)) none (some 6)).map P.int)).bind intsP).map (fun ns => P.int ns.sum) = _
     rw [Option.bind_some, intsP_ints]; rfl
   · show some (P.int (oC.getD k 0 + (pickI seen (some (k : Int)) none (some 6)).sum)) = some (gCell seen (.int (k : Int)))
     show _ = some (P.int (oC.getD ((k : Int)).toNat 0 + (pickI seen (some (k : Int)) none (some 6)).sum))
     rw [Int.toNat_natCast]
theorem win_get {s k : Nat} (hs : s < 8) (hk : k < 7) : (win s)[k]? = some ((win s).getD k 0) := by
 have := win_len s hs
 rw [List.getD_eq_getElem?_getD, List.getElem?_eq_getElem (by lia)]; rfl
theorem pk_len : ∀ s : Nat, s < 8 → (pickI l14 (some (s : Int)) none none).length ≤ 14 := by decide +kernel
theorem ph1 {xs : List Int} (hl : xs.length ≤ 63) {R : SW} {Po : Post} (h : ∀ σ c s msg mix, A1 σ c s msg mix → R σ Po) : wSeq wl0 (wSeq wl1 (wSeq wl2 (wSeq wl3 (wSeq wl4 (wSeq wl5 (wSeq wl6 (wSeq wl7 (wSeq wl8 R)))))))) (St.of [.lst (xs.map .int)] 49) Po := by
 refine wg fun P' bk => ?_
 obtain ⟨seen, hseen⟩ : ∃ seen, seen = pickI xs none (some 60) none := ⟨_, rfl⟩
 have hsl : seen.length ≤ 60 := by rw [hseen]; exact pickI_len (seen_len xs.length (by exact m1 ‹_› (by decide)))
 obtain ⟨c, hc⟩ : ∃ c, c = cellsOf seen := ⟨_, rfl⟩
 have hcl : c.length = 6 := by rw [hc]; simp [cellsOf]
 obtain ⟨a0, a1, a2, a3, a4, a5, rfl⟩ : ∃ a0 a1 a2 a3 a4 a5, c = [a0, a1, a2, a3, a4, a5] := by
   apply lenS (ys := c) hcl; clear hcl
   intro a0 c hcl
   apply lenS (ys := c) hcl; clear hcl
   intro a1 c hcl
   apply lenS (ys := c) hcl; clear hcl
   intro a2 c hcl
   apply lenS (ys := c) hcl; clear hcl
   intro a3 c hcl
   apply lenS (ys := c) hcl; clear hcl
   intro a4 c hcl
   apply lenS (ys := c) hcl; clear hcl
   intro a5 c hcl
   apply len0 (ys := c) hcl
   exact ⟨_, _, _, _, _, _, rfl⟩
 obtain ⟨s, hs⟩ : ∃ s : Nat, s = (a0 % 8).toNat := ⟨_, rfl⟩
 have hs8 : s < 8 := by lia
 have hsi : (s : Int) = a0 % 8 := by lia
 refine bk ?_
 refine ⟨.p (.lst (seen.map .int)), ?_, .p (.lst (oC.map .int)), ?_, .p (.lst ([a0, a1, a2, a3, a4, a5].map .int)), ?_, .p (.lst ((win s).map .int)), ?_, .p (.int 1), rfl, ?_⟩
 · rw [hseen, ← pickP_ints]
   exact cFz_of (nSl_of (v := .p (.lst (xs.map .int))) rfl rfl rfl (kInt_of rfl) rfl (by rw [List.length_map]; exact n9 ‹_› (by decide)) (by simp))
 · exact cLst_of (vs := oC.map fun n => .p (.int n)) rfl rfl (by decide)
 · rw [hc]
   exact cells_of rfl rfl (by exact n9 ‹_› (by decide))
 · rw [← win_pick s hs8, ← pickP_ints]
   refine cFz_of (nSl_of (v := .p (.lst ((pickI l14 (some (s : Int)) none none).map .int))) (cFz_of ?_) rfl rfl (kInt_of rfl) rfl ?_ (by simp))
   · rw [← pickP_ints]
     refine nSl_of (v := .p (.lst (l14.map .int))) (cLst_of (vs := l14.map fun n => .p (.int n)) rfl rfl (by decide)) rfl (kInt_of (k := (s : Int)) ?_) rfl rfl (by decide) (by simp)
     refine lift2_of (a := .int a0) (b := .int 8) (sub_int (ns := [a0, a1, a2, a3, a4, a5]) (k := 0) rfl rfl (by decide) rfl) rfl ?_
     show some (P.int (a0.fmod 8)) = _
     rw [Int.fmod_eq_emod_of_nonneg _ (by decide), hsi]
   · rw [List.length_map]
     have := pk_len s hs8
     exact n9 ‹_› (by decide)
 ·
   refine wg fun P' bk => ?_
   obtain ⟨b1, b2, b3, b4, b5, b6, b7⟩ := bnd_facts s hs8
   refine bk ?_
   refine ⟨.p (.lst ((win s).map .int)), rfl, ?_⟩
   refine prod_loop (win s) 1 _ (fun p hp => by have := win_range s hs8 p hp; lia) (Int.le_refl _) (by rw [Int.one_mul]; exact r1 ‹_› (by decide)) rfl rfl fun σ S O h6 => ?_
   rw [Int.one_mul] at h6
   have h4 : cV 4 σ = some (.p (.lst ([a0, a1, a2, a3, a4, a5].map .int))) := S.v 4 (by decide)
   have h5 : cV 5 σ = some (.p (.lst ((win s).map .int))) := S.v 5 (by decide)
   have hlen : σ.vals.length = 50 := S.len
   have g5 := win_get hs8 (show 5 < 7 by decide)
   have g6 := win_get hs8 (show 6 < 7 by decide)
   refine wg fun P' bk => ?_
   obtain ⟨p5, hp5⟩ : ∃ p, p = (win s).getD 5 0 := ⟨_, rfl⟩
   obtain ⟨p6, hp6⟩ : ∃ p, p = (win s).getD 6 0 := ⟨_, rfl⟩
   rw [← hp5] at b4 b5 g5
   rw [← hp6] at b6 b7 g6
   have hm56 : p5 * p6 ≤ 100 * 100 := Int.mul_le_mul (by exact q1 ‹_›) (by exact q1 ‹_›) (by exact q1 ‹_›) (by decide)
   have hm56' : 1 ≤ p5 * p6 := by have := iml (show 1 ≤ p6 by assumption) (show 0 ≤ p5 by exact q1 ‹_›); lia
   have hsq : (p5 * p6) ^ 2 = p5 * p6 * (p5 * p6) := by rw [Int.pow_succ, Int.pow_succ, Int.pow_zero, Int.one_mul]
   have hsq1 : 1 ≤ (p5 * p6) ^ 2 := by
     rw [hsq]; have := iml hm56' (show 0 ≤ p5 * p6 by exact q1 ‹_›); lia
   have hsq2 : (p5 * p6) ^ 2 ≤ 10000 * 10000 := by
     rw [hsq]; exact Int.mul_le_mul (by assumption) (by assumption) (by exact q1 ‹_›) (by decide)
   have hB : bnd s = prodI (win s) / (4 * (p5 * p6) ^ 2) := by rw [hp5, hp6]; rfl
   refine bk ?_
   refine ⟨.p (.int (bnd s)), ?_, ?_⟩
   · refine lift2_of (a := .int (prodI (win s))) (b := .int (4 * (p5 * p6) ^ 2)) h6 (lift2_of (a := .int 4) (b := .int ((p5 * p6) ^ 2)) rfl (lift2_of (a := .int (p5 * p6)) (b := .int 2) (lift2_of (a := .int p5) (b := .int p6) (sub_int (k := 5) h5 rfl (by decide) g5) (sub_int (k := 6) h5 rfl (by decide) g6) ?_) rfl ?_) rfl) ?_
     · (delta mulP; dsimp only); rw [if_pos (by exact na (by lia))]
     · (delta powP; dsimp only); rw [if_pos ⟨by decide, by decide, by exact na (by lia)⟩]; rfl
     · (delta fdivP; dsimp only); rw [if_pos (by exact ⟨by lia, na (by lia)⟩), Int.fdiv_eq_ediv_of_nonneg _ (by lia), hB]
   refine wg fun P' bk => ?_
   obtain ⟨msg, hmsg⟩ : ∃ msg, msg = a1 % (2 * bnd s - 1) - bnd s + 1 := ⟨_, rfl⟩
   have hr0 := Int.emod_nonneg a1 (show 2 * bnd s - 1 ≠ 0 by lia)
   have hr1 := Int.emod_lt_of_pos a1 (show 0 < 2 * bnd s - 1 by lia)
   have h4' : cV 4 (σ.put 8 (.p (.int (bnd s)))) = some (.p (.lst ([a0, a1, a2, a3, a4, a5].map .int))) := (cV_diff (by decide)).trans h4
   have h8' : cV 8 (σ.put 8 (.p (.int (bnd s)))) = some (.p (.int (bnd s))) := cV_same (by lia)
   refine bk ?_
   refine ⟨.p (.int msg), ?_, ?_⟩
   · refine lift2_of (a := .int (a1 % (2 * bnd s - 1) - bnd s)) (b := .int 1) (lift2_of (a := .int (a1 % (2 * bnd s - 1))) (b := .int (bnd s)) (lift2_of (a := .int a1) (b := .int (2 * bnd s - 1)) (sub_int (k := 1) h4' rfl (by decide) rfl) (lift2_of (a := .int (2 * bnd s)) (b := .int 1) (lift2_of (a := .int 2) (b := .int (bnd s)) rfl h8' rfl) rfl rfl) ?_) h8' rfl) rfl ?_
     · (delta modP; dsimp only); rw [if_pos (by lia), Int.fmod_eq_emod_of_nonneg _ (by lia)]
     · rw [hmsg]; rfl
   refine wg fun P' bk => ?_
   obtain ⟨mix, hmix⟩ : ∃ mix, mix = a2 / 5 % 840 := ⟨_, rfl⟩
   have hx0 : 0 ≤ mix := by lia
   have hx1 : mix < 840 := by lia
   have O' : σ.own = [] := O
   refine bk ?_
   refine ⟨([0, 1, 2, 3, 4, 5, 6] : List Int).map .int, [], .int mix, rfl, rfl, ?_, rfl, ?_⟩
   · refine lift2_of (a := .int (a2 / 5)) (b := .int 840) (lift2_of (a := .int a2) (b := .int 5) (sub_int (ns := [a0, a1, a2, a3, a4, a5]) (k := 2) ?_ rfl (by decide) rfl) rfl ?_) rfl ?_
     · exact (cV_diff (i := 9) (j := 4) (by decide)).trans h4'
     · (delta fdivP; dsimp only); rw [if_pos (by decide), Int.fdiv_eq_ediv_of_nonneg _ (by decide)]
     · (delta modP; dsimp only); rw [if_pos (by decide), Int.fmod_eq_emod_of_nonneg _ (by decide), hmix]
   · refine h _ [a0, a1, a2, a3, a4, a5] s msg mix ⟨?_, ?_, ?_, rfl, hs8, ?_, ?_, ?_, ?_, ?_, by lia, by lia, ?_, ?_, ?_, hx0, hx1⟩
     · simp [put_len, add_len, hlen]
     · exact S.ky
     · simp [put_own, add_own, O']
     all_goals simp [cV_put, cV_add, put_len, add_len, hlen, put_own, O', h4, h5, h6]
noncomputable def nP (ks : List Nat) : List P := ks.map fun (k : Nat) => P.int (k : Int)
noncomputable def pk (s : Nat) (ks : List Nat) : Int := prodI (ks.map fun k => (win s).getD k 0)
theorem prodI_perm {a b : List Int} (h : a.Perm b) : prodI a = prodI b := by
 induction h with
 | nil => rfl
 | cons x _ ih => simp only [prodI, ih]
 | swap x y l => simp only [prodI]; rw [← Int.mul_assoc, ← Int.mul_assoc, Int.mul_comm x y]
 | trans _ _ h1 h2 => exact h1.trans h2
theorem pk_perm {s : Nat} {a b : List Nat} (h : a.Perm b) : pk s a = pk s b := prodI_perm (h.map _)
theorem win_at {s k : Nat} (hs : s < 8) (hk : k < 7) : 11 ≤ (win s).getD k 0 ∧ (win s).getD k 0 ≤ 61 := by
 have := win_get hs hk
 exact win_range s hs _ (List.mem_of_getElem? this)
theorem pk_pos {s : Nat} (hs : s < 8) {ks : List Nat} (h : ∀ k ∈ ks, k < 7) : 1 ≤ pk s ks := prodI_pos fun p hp => by
 obtain ⟨k, hk, rfl⟩ := List.mem_map.mp hp
 have := win_at hs (h k hk); lia
theorem nP_erase : ∀ (ks : List Nat) (i : Nat), (nP ks).eraseIdx i = nP (ks.eraseIdx i)
 | [], i => by cases i <;> rfl
 | k :: ks, 0 => rfl
 | k :: ks, i + 1 => by
   show P.int (k : Int) :: (nP ks).eraseIdx i = P.int (k : Int) :: nP (ks.eraseIdx i)
   rw [nP_erase ks i]
theorem nP_app {a b : List Nat} : nP (a ++ b) = nP a ++ nP b := List.map_append
theorem erase_perm : ∀ (ks : List Nat) (i k : Nat), ks[i]? = some k → ks.Perm (k :: ks.eraseIdx i)
 | [], i, k, h => by simp at h
 | x :: ks, 0, k, h => by
   have e : x = k := by simpa using h
   subst e
   exact List.Perm.refl _
 | x :: ks, i + 1, k, h => by
   have h' : ks[i]? = some k := by simpa using h
   exact ((erase_perm ks i k h').cons x).trans (List.Perm.swap k x _)
theorem nP_len {ks : List Nat} : (nP ks).length = ks.length := by simp [nP]
theorem nP_get {ks : List Nat} {i k : Nat} (h : ks[i]? = some k) : (nP ks)[i]? = some (.int (k : Int)) := by simp [nP, h]
theorem len_own {f : St → Option V} {σ : St} {i : Nat} {xs : List P} (hf : f σ = some (.own i)) (hx : σ.own[i]? = some xs) (hl : xs.length ≤ 1000) : cApp lenA (cCons f cNil) σ = some (.p (.int (xs.length : Int))) := by
 refine cApp_of (vs := [.own i]) (cCons_of hf rfl) ?_
 show (match seqOf σ (.own i) with | some xs => if xs.length ≤ 100000 then some (P.int xs.length) else none | none => none) = _
 rw [show seqOf σ (.own i) = some xs from hx]
 exact if_pos (by exact n9 ‹_› (by decide))
theorem pop_of {f g : St → Option V} {σ : St} {j i : Nat} {xs : List P} {x : P} (hf : f σ = some (.own j)) (hg : g σ = some (.p (.int (i : Int)))) (hx : σ.own[j]? = some xs) (hl : xs.length ≤ 1000) (hi : xs[i]? = some x) : xPop f g σ = some (.p x, σ.set j (xs.eraseIdx i)) := by
 unfold xPop
 rw [hf, hg]
 simp only [hx]
 rw [if_pos ⟨hl, by exact r6⟩, Int.toNat_natCast, hi]; rfl
structure Parts (came lost : List Nat) : Prop where
 p : (came ++ lost).Perm (List.range 7)
 o : came.Pairwise (· < ·)
theorem Parts.lt {came lost : List Nat} (x : Parts came lost) : (∀ k ∈ came, k < 7) ∧ ∀ k ∈ lost, k < 7 :=
 ⟨fun k hk => List.mem_range.mp (x.p.mem_iff.mp (List.mem_append_left _ hk)), fun k hk => List.mem_range.mp (x.p.mem_iff.mp (List.mem_append_right _ hk))⟩
theorem Parts.len {came lost : List Nat} (x : Parts came lost) : came.length + lost.length = 7 := by
 have := x.p.length_eq; simpa using this
theorem Parts.take {came lost : List Nat} (x : Parts came lost) {i : Nat} {k : Nat} (h : came[i]? = some k) : Parts (came.eraseIdx i) (lost ++ [k]) ∧ came.Perm (k :: came.eraseIdx i) := by
 obtain ⟨hi, e⟩ := List.getElem?_eq_some_iff.mp h
 have hp : came.Perm (k :: came.eraseIdx i) := erase_perm came i k h
 refine ⟨⟨?_, x.o.sublist (List.eraseIdx_sublist ..)⟩, hp⟩
 refine List.Perm.trans ?_ x.p
 have h1 : (came ++ lost).Perm (k :: came.eraseIdx i ++ lost) := hp.append_right lost
 refine List.Perm.trans ?_ h1.symm
 have h2 : (came.eraseIdx i ++ (lost ++ [k])).Perm (k :: (came.eraseIdx i ++ lost)) := by
   rw [← List.append_assoc]
   exact List.perm_append_comm.trans (List.Perm.refl _)
 exact h2
structure A2 (σ : St) (c : List Int) (s : Nat) (msg : Int) (came lost : List Nat) : Prop where
 len : σ.vals.length = 50
 ky : σ.ky = Ky.no
 own : σ.own = [nP came, nP lost]
 cl : c.length = 6
 sl : s < 8
 c4 : cV 4 σ = some (.p (.lst (c.map .int)))
 c5 : cV 5 σ = some (.p (.lst ((win s).map .int)))
 c6 : cV 6 σ = some (.p (.int (pk s came)))
 c8 : cV 8 σ = some (.p (.int (bnd s)))
 c9 : cV 9 σ = some (.p (.int msg))
 m1 : -(bnd s - 1) ≤ msg
 m2 : msg ≤ bnd s - 1
 c10 : cV 10 σ = some (.own 0)
 c11 : cV 11 σ = some (.own 1)
 p : Parts came lost
theorem lose_loop {c : List Int} {s : Nat} {msg : Int} {Po : Post} : ∀ (n a : Nat) (σ : St) (came lost : List Nat) (mix : Int), A2 σ c s msg came lost → cV 12 σ = some (.p (.int mix)) → 0 ≤ mix → came.length = 7 - a → a + n ≤ 4 →
   (∀ σ' came' lost', A2 σ' c s msg came' lost' → 3 ≤ came'.length → Po .next σ') →
   wTurns (fun zz => True) (fun σ v => some (σ.put 13 v)) (wSeq (wApp (cV 11) (xPop (cV 10) (lift2 modP (cV 12) (cApp lenA (cCons (cV 10) cNil))))) (wSeq (wAug 6 fdivP (cSub (cV 5) (cSub (cV 11) (lift1 negP (cK (.int 1)))))) (wSeq (wAug 12 fdivP (lift2 subP (cK (.int 7)) (cV 13))) wNil))) (rangeP (a : Int) n) σ Po
 | 0, a, σ, came, lost, mix, A, h12, hx, hl, ha, h => h σ came lost A (by lia)
 | n + 1, a, σ, came, lost, mix, A, h12, hx, hl, ha, h => by
   obtain ⟨i, hi⟩ : ∃ i : Nat, i = (mix % (came.length : Int)).toNat := ⟨_, rfl⟩
   have hr0 := Int.emod_nonneg mix (show (came.length : Int) ≠ 0 by lia)
   have hr1 := Int.emod_lt_of_pos mix (show 0 < (came.length : Int) by lia)
   have hil : i < came.length := by lia
   have hii : mix % (came.length : Int) = (i : Int) := by lia
   obtain ⟨k, hk⟩ : ∃ k, came[i]? = some k := ⟨_, List.getElem?_eq_getElem hil⟩
   obtain ⟨hP, hperm⟩ := A.p.take hk
   have hk7 : k < 7 := A.p.lt.1 k (List.mem_of_getElem? hk)
   have hw := win_at A.sl hk7
   have hlen := A.len
   have hcl := A.p.len
   obtain ⟨σ1, e1⟩ : ∃ σ1, σ1 = σ.put 13 (.p (.int (a : Int))) := ⟨_, rfl⟩
   have l1 : σ1.vals.length = 50 := by rw [e1, put_len, hlen]
   have o1 : σ1.own = [nP came, nP lost] := by rw [e1]; exact A.own
   have d1 : ∀ j, j ≠ 13 → cV j σ1 = cV j σ := fun j hj => by rw [e1]; exact cV_diff (Ne.symm hj)
   have v13 : cV 13 σ1 = some (.p (.int (a : Int))) := by rw [e1]; exact cV_same (by lia)
   obtain ⟨σ2, e2⟩ : ∃ σ2, σ2 = (σ1.set 0 (nP (came.eraseIdx i))).set 1 (nP (lost ++ [k])) := ⟨_, rfl⟩
   have o2 : σ2.own = [nP (came.eraseIdx i), nP (lost ++ [k])] := by rw [e2, set_own, set_own, o1]; rfl
   have d2 : ∀ j, cV j σ2 = cV j σ1 := fun j => by rw [e2]; rfl
   have l2 : σ2.vals.length = 50 := by rw [e2]; exact l1
   refine ⟨σ1, by rw [e1], ?_⟩
   refine ⟨1, nP lost, .int (k : Int), σ1.set 0 (nP (came.eraseIdx i)), (d1 11 (by decide)).trans A.c11, ?_, ?_, by rw [nP_len]; lia, ?_⟩
   · have := pop_of (f := cV 10) (g := lift2 modP (cV 12) (cApp lenA (cCons (cV 10) cNil))) (σ := σ1) (j := 0) (i := i) (xs := nP came) (x := .int (k : Int)) ((d1 10 (by decide)).trans A.c10) (lift2_of (a := .int mix) (b := .int (came.length : Int)) ((d1 12 (by decide)).trans h12) (by rw [← nP_len]; exact len_own ((d1 10 (by decide)).trans A.c10) (by rw [o1]; rfl) (by rw [nP_len]; lia)) (by (delta modP; dsimp only); rw [if_pos (by lia), Int.fmod_eq_emod_of_nonneg _ (by exact r6), hii])) (by rw [o1]; rfl) (by rw [nP_len]; lia) (nP_get hk)
     rw [this]
     congr 2
     rw [nP_erase]
   · rw [set_own, o1]; rfl
   · have e3 : (σ1.set 0 (nP (came.eraseIdx i))).set 1 (nP lost ++ [.int (k : Int)]) = σ2 := by rw [e2, nP_app]; rfl
     rw [e3]
     have hq : pk s came = (win s).getD k 0 * pk s (came.eraseIdx i) := by rw [pk_perm hperm]; rfl
     refine ⟨.int (pk s came), .int ((win s).getD k 0), .int (pk s (came.eraseIdx i)), join_some ((d2 6).trans ((d1 6 (by decide)).trans A.c6)), ?_, ?_, ?_⟩
     · refine sub_int (k := k) ((d2 5).trans ((d1 5 (by decide)).trans A.c5)) (sub_own (k := 1) ((d2 11).trans ((d1 11 (by decide)).trans A.c11)) (by rw [o2]; rfl) (by decide) (by rw [nP_len]; simp) (by decide) ?_) (by exact m3 ‹_› (by decide)) (win_get A.sl hk7)
       rw [nP_len]
       exact nP_get (by simp)
     · (delta fdivP; dsimp only)
       rw [if_pos (by exact ⟨by lia, na (by lia)⟩), Int.fdiv_eq_ediv_of_nonneg _ (by lia), hq, Int.mul_ediv_cancel_left _ (by lia)]
     · obtain ⟨σ3, e4⟩ : ∃ σ3, σ3 = σ2.put 6 (.p (.int (pk s (came.eraseIdx i)))) := ⟨_, rfl⟩
       have d3 : ∀ j, j ≠ 6 → cV j σ3 = cV j σ2 := fun j hj => by rw [e4]; exact cV_diff (Ne.symm hj)
       have g3 : ∀ j, j ≠ 6 → j ≠ 13 → cV j σ3 = cV j σ := fun j h6 h13 => ((d3 j h6).trans (d2 j)).trans (d1 j h13)
       rw [← e4]
       refine ⟨.int mix, .int (7 - (a : Int)), .int (mix / (7 - (a : Int))), join_some ((g3 12 (by decide) (by decide)).trans h12), ?_, ?_, trivial, ?_⟩
       · exact lift2_of (a := .int 7) (b := .int (a : Int)) rfl ((d3 13 (by decide)).trans ((d2 13).trans v13)) rfl
       · (delta fdivP; dsimp only)
         rw [if_pos (by exact ⟨by lia, na (by lia)⟩), Int.fdiv_eq_ediv_of_nonneg _ (by lia)]
       · have hmx : 0 ≤ mix / (7 - (a : Int)) := Int.ediv_nonneg hx (by lia)
         obtain ⟨σ4, e5⟩ : ∃ σ4, σ4 = σ3.put 12 (.p (.int (mix / (7 - (a : Int))))) := ⟨_, rfl⟩
         have l4 : σ4.vals.length = 50 := by rw [e5, put_len, e4, put_len, l2]
         have g4 : ∀ j, j ≠ 6 → j ≠ 13 → j ≠ 12 → cV j σ4 = cV j σ := fun j h6 h13 h12 => by rw [e5]; exact (cV_diff (Ne.symm h12)).trans (g3 j h6 h13)
         have v6 : cV 6 σ4 = some (.p (.int (pk s (came.eraseIdx i)))) := by rw [e5]; refine (cV_diff (by decide)).trans ?_; rw [e4]; exact cV_same (by lia)
         have v12 : cV 12 σ4 = some (.p (.int (mix / (7 - (a : Int))))) := by rw [e5]; exact cV_same (by rw [e4, put_len, l2]; decide)
         rw [← e5]
         have A' : A2 σ4 c s msg (came.eraseIdx i) (lost ++ [k]) := ⟨l4, by rw [e5, e4, e2, e1]; exact A.ky, by rw [e5, e4]; exact o2, A.cl, A.sl, (g4 4 (by decide) (by decide) (by decide)).trans A.c4, (g4 5 (by decide) (by decide) (by decide)).trans A.c5, v6, (g4 8 (by decide) (by decide) (by decide)).trans A.c8, (g4 9 (by decide) (by decide) (by decide)).trans A.c9, A.m1, A.m2, (g4 10 (by decide) (by decide) (by decide)).trans A.c10, (g4 11 (by decide) (by decide) (by decide)).trans A.c11, hP⟩
         have := lose_loop n (a + 1) σ4 (came.eraseIdx i) (lost ++ [k]) _ A' v12 hmx (by rw [List.length_eraseIdx_of_lt hil]; lia) (by lia) h
         exact this
noncomputable def pI (s k : Nat) : Int := (win s).getD k 0
theorem eq_of_mem {a b : List Nat} (ha : a.Pairwise (· < ·)) (hb : b.Pairwise (· < ·)) (h : ∀ x, x ∈ a ↔ x ∈ b) : a = b := by
 refine List.Perm.eq_of_pairwise (le := fun x y : Nat => x < y) (fun x y zz zz h1 h2 => absurd h1 (by lia)) ha hb ?_
 exact (List.perm_ext_iff_of_nodup (ha.imp fun h => Nat.ne_of_lt h) (hb.imp fun h => Nat.ne_of_lt h)).mpr h
noncomputable def subs (n : Nat) : List (List Nat) := (List.range (2 ^ n)).map fun m => (List.range n).filter fun k => m.testBit k
noncomputable def maskOf : Nat → (Nat → Bool) → Nat
 | 0, _ => 0
 | n + 1, f => maskOf n f + (if f n then 2 ^ n else 0)
theorem mask_lt : ∀ (n : Nat) (f : Nat → Bool), maskOf n f < 2 ^ n
 | 0, _ => by simp [maskOf]
 | n + 1, f => by
   have := mask_lt n f
   simp only [maskOf]; rw [Nat.pow_succ]; split <;> lia
theorem mask_bit : ∀ (n : Nat) (f : Nat → Bool) (k : Nat), k < n → (maskOf n f).testBit k = f k
 | n + 1, f, k, hk => by
   have hl := mask_lt n f
   simp only [maskOf]
   by_cases h : k = n
   · subst h
     cases hf : f k with
     | true => rw [if_pos rfl, Nat.add_comm, Nat.testBit_two_pow_add_eq, Nat.testBit_lt_two_pow hl]; rfl
     | false => rw [if_neg (by simp), Nat.add_zero, Nat.testBit_lt_two_pow hl]
   · have hk' : k < n := by lia
     cases hf : f n with
     | true => rw [if_pos rfl, Nat.add_comm, Nat.testBit_two_pow_add_gt hk', mask_bit n f k hk']
     | false => rw [if_neg (by simp), Nat.add_zero, mask_bit n f k hk']
theorem in_subs {a : List Nat} {n : Nat} (ha : a.Pairwise (· < ·)) (h : ∀ k ∈ a, k < n) : a ∈ subs n := by
 refine List.mem_map.mpr ⟨maskOf n fun k => decide (k ∈ a), List.mem_range.mpr (mask_lt _ _), ?_⟩
 refine eq_of_mem (List.pairwise_lt_range.filter _) ha fun x => ?_
 rw [List.mem_filter, List.mem_range]
 constructor
 · rintro ⟨h1, h2⟩; rw [mask_bit _ _ _ h1] at h2; exact of_decide_eq_true h2
 · intro hx; exact ⟨h x hx, by rw [mask_bit _ _ _ (h x hx)]; exact decide_eq_true hx⟩
noncomputable def topI (s : Nat) (came : List Nat) : List Int := [1, pI s (came.getD (came.length - 1) 0), pI s (came.getD (came.length - 1) 0) * pI s (came.getD (came.length - 2) 0)]
noncomputable def brn (s : Nat) (came : List Nat) : Nat := cnt ((topI s came).map fun w => 4 * w * w * bnd s) (pk s came) - 1
noncomputable def chkA (s : Nat) (came : List Nat) : Bool := decide (came.length < 3) || (decide (4 * bnd s ≤ pk s came) && decide (pk s came < 2 ^ 40) && decide (bnd s < 2 ^ 24)
 && decide (1 ≤ cnt ((topI s came).map fun w => 4 * w * w * bnd s) (pk s came)) && decide (brn s came ≤ 2) && decide (4 * (topI s came).getD (brn s came) 0 * (topI s came).getD (brn s came) 0 * bnd s ≤ pk s came))
theorem chkA_all : ∀ s < 8, ∀ came ∈ subs 7, chkA s came = true := by decide +kernel
theorem came_facts {s : Nat} {came : List Nat} (hs : s < 8) (ho : came.Pairwise (· < ·)) (h7 : ∀ k ∈ came, k < 7) (h3 : 3 ≤ came.length) :
   4 * bnd s ≤ pk s came ∧ pk s came < 2 ^ 40 ∧ bnd s < 2 ^ 24 ∧ 1 ≤ cnt ((topI s came).map fun w => 4 * w * w * bnd s) (pk s came) ∧ brn s came ≤ 2 ∧ 4 * (topI s came).getD (brn s came) 0 * (topI s came).getD (brn s came) 0 * bnd s ≤ pk s came := by
 have := chkA_all s hs came (in_subs ho h7)
 unfold chkA at this
 rw [Bool.or_eq_true] at this
 rcases this with h | h
 · have := of_decide_eq_true h; omega
 · simp only [Bool.and_eq_true, decide_eq_true_eq] at h
   obtain ⟨⟨⟨⟨⟨a, b⟩, c⟩, d⟩, e⟩, f⟩ := h
   exact ⟨a, b, c, d, e, f⟩
theorem compP_filter {c : St → Option Bool} {f : St → Option V} {rest : List (Option V)} {own : List (List P)} {ky : Ky} {q : P → Bool} : ∀ (xs acc : List P), (∀ x ∈ xs, ∀ acc, c ⟨none :: some (.p x) :: rest, own ++ [acc], ky⟩ = some (q x) ∧ f ⟨none :: some (.p x) :: rest, own ++ [acc], ky⟩ = some (.p x)) → compP c f rest own ky xs acc = some (acc ++ xs.filter q)
 | [], acc, _ => by simp [compP]
 | x :: xs, acc, h => by
   obtain ⟨h1, h2⟩ := h x (.head _) acc
   simp only [compP, h1, h2]
   cases hq : q x with
   | true =>
     simp only
     rw [compP_filter xs _ fun y hy => h y (.tail _ hy), List.filter_cons_of_pos hq]
     simp
   | false =>
     simp only
     rw [compP_filter xs _ fun y hy => h y (.tail _ hy), List.filter_cons_of_neg (by simp [hq])]
structure A3 (σ : St) (c : List Int) (s : Nat) (msg : Int) (came lost right wrong : List Nat) : Prop where
 len : σ.vals.length = 50
 ky : σ.ky = Ky.no
 own : σ.own = [nP came, nP lost, nP right, nP wrong]
 cl : c.length = 6
 sl : s < 8
 c4 : cV 4 σ = some (.p (.lst (c.map .int)))
 c5 : cV 5 σ = some (.p (.lst ((win s).map .int)))
 c8 : cV 8 σ = some (.p (.int (bnd s)))
 c9 : cV 9 σ = some (.p (.int msg))
 m1 : -(bnd s - 1) ≤ msg
 m2 : msg ≤ bnd s - 1
 c11 : cV 11 σ = some (.own 1)
 c15 : cV 15 σ = some (.p (.int (brn s came : Int)))
 c16 : cV 16 σ = some (.own 2)
 c17 : cV 17 σ = some (.own 3)
 p : Parts came lost
 h3 : 3 ≤ came.length
 q : (right ++ wrong).Perm came
 w : wrong.length ≤ brn s came
theorem perm_take {right wrong : List Nat} {came : List Nat} (x : (right ++ wrong).Perm came) {i k : Nat} (h : right[i]? = some k) : (right.eraseIdx i ++ (wrong ++ [k])).Perm came := by
 have hp := erase_perm right i k h
 refine List.Perm.trans ?_ x
 refine List.Perm.trans ?_ (hp.append_right wrong).symm
 rw [← List.append_assoc]
 exact List.perm_append_comm
theorem spoil_loop {c : List Int} {s : Nat} {msg : Int} {came lost : List Nat} {Po : Post} : ∀ (n : Nat) (a : Int) (σ : St) (right wrong : List Nat) (mix : Int), A3 σ c s msg came lost right wrong → cV 12 σ = some (.p (.int mix)) → 0 ≤ mix → wrong.length + n ≤ brn s came → brn s came ≤ 2 →
   (∀ σ' right' wrong', A3 σ' c s msg came lost right' wrong' → Po .next σ') →
   wTurns (fun zz => True) (fun σ v => some (σ.put 13 v)) (wSeq (wApp (cV 17) (xPop (cV 16) (lift2 modP (cV 12) (cApp lenA (cCons (cV 16) cNil))))) (wSeq (wAug 12 fdivP (lift2 addP (cApp lenA (cCons (cV 16) cNil)) (cK (.int 1)))) wNil)) (rangeP a n) σ Po
 | 0, a, σ, right, wrong, mix, A, h12, hx, hl, hb, h => h σ right wrong A
 | n + 1, a, σ, right, wrong, mix, A, h12, hx, hl, hb, h => by
   have hq := A.q.length_eq
   rw [List.length_append] at hq
   have h3 := A.h3
   have hcl := A.p.len
   have hlen := A.len
   obtain ⟨i, hi⟩ : ∃ i : Nat, i = (mix % (right.length : Int)).toNat := ⟨_, rfl⟩
   have hr0 := Int.emod_nonneg mix (show (right.length : Int) ≠ 0 by lia)
   have hr1 := Int.emod_lt_of_pos mix (show 0 < (right.length : Int) by lia)
   have hil : i < right.length := by lia
   have hii : mix % (right.length : Int) = (i : Int) := by lia
   obtain ⟨k, hk⟩ : ∃ k, right[i]? = some k := ⟨_, List.getElem?_eq_getElem hil⟩
   have hP := perm_take A.q hk
   obtain ⟨σ1, e1⟩ : ∃ σ1, σ1 = σ.put 13 (.p (.int a)) := ⟨_, rfl⟩
   have l1 : σ1.vals.length = 50 := by rw [e1, put_len, hlen]
   have o1 : σ1.own = [nP came, nP lost, nP right, nP wrong] := by rw [e1]; exact A.own
   have d1 : ∀ j, j ≠ 13 → cV j σ1 = cV j σ := fun j hj => by rw [e1]; exact cV_diff (Ne.symm hj)
   obtain ⟨σ2, e2⟩ : ∃ σ2, σ2 = (σ1.set 2 (nP (right.eraseIdx i))).set 3 (nP (wrong ++ [k])) := ⟨_, rfl⟩
   have o2 : σ2.own = [nP came, nP lost, nP (right.eraseIdx i), nP (wrong ++ [k])] := by rw [e2, set_own, set_own, o1]; rfl
   have d2 : ∀ j, cV j σ2 = cV j σ1 := fun j => by rw [e2]; rfl
   have l2 : σ2.vals.length = 50 := by rw [e2]; exact l1
   have hel : (right.eraseIdx i).length = right.length - 1 := List.length_eraseIdx_of_lt hil
   refine ⟨σ1, by rw [e1], ?_⟩
   refine ⟨3, nP wrong, .int (k : Int), σ1.set 2 (nP (right.eraseIdx i)), (d1 17 (by decide)).trans A.c17, ?_, ?_, by rw [nP_len]; lia, ?_⟩
   · have := pop_of (f := cV 16) (g := lift2 modP (cV 12) (cApp lenA (cCons (cV 16) cNil))) (σ := σ1) (j := 2) (i := i) (xs := nP right) (x := .int (k : Int)) ((d1 16 (by decide)).trans A.c16) (lift2_of (a := .int mix) (b := .int (right.length : Int)) ((d1 12 (by decide)).trans h12) (by rw [← nP_len]; exact len_own ((d1 16 (by decide)).trans A.c16) (by rw [o1]; rfl) (by rw [nP_len]; lia)) (by (delta modP; dsimp only); rw [if_pos (by lia), Int.fmod_eq_emod_of_nonneg _ (by exact r6), hii])) (by rw [o1]; rfl) (by rw [nP_len]; lia) (nP_get hk)
     rw [this]
     congr 2
     rw [nP_erase]
   · rw [set_own, o1]; rfl
   · have e3 : (σ1.set 2 (nP (right.eraseIdx i))).set 3 (nP wrong ++ [.int (k : Int)]) = σ2 := by rw [e2, nP_app]; rfl
     rw [e3]
     refine ⟨.int mix, .int (((right.eraseIdx i).length : Int) + 1), .int (mix / (((right.eraseIdx i).length : Int) + 1)), join_some ((d2 12).trans ((d1 12 (by decide)).trans h12)), ?_, ?_, trivial, ?_⟩
     · exact lift2_of (a := .int ((right.eraseIdx i).length : Int)) (b := .int 1) (by rw [← nP_len]; exact len_own ((d2 16).trans ((d1 16 (by decide)).trans A.c16)) (by rw [o2]; rfl) (by rw [nP_len]; lia)) rfl rfl
     · (delta fdivP; dsimp only)
       rw [if_pos (by exact ⟨by lia, na (by lia)⟩), Int.fdiv_eq_ediv_of_nonneg _ (by exact r6)]
     · have hmx : 0 ≤ mix / (((right.eraseIdx i).length : Int) + 1) := Int.ediv_nonneg hx (by exact r6)
       obtain ⟨σ4, e5⟩ : ∃ σ4, σ4 = σ2.put 12 (.p (.int (mix / (((right.eraseIdx i).length : Int) + 1)))) := ⟨_, rfl⟩
       have l4 : σ4.vals.length = 50 := by rw [e5, put_len, l2]
       have g4 : ∀ j, j ≠ 13 → j ≠ 12 → cV j σ4 = cV j σ := fun j h13 h12 => by rw [e5]; exact (cV_diff (Ne.symm h12)).trans ((d2 j).trans (d1 j h13))
       have v12 : cV 12 σ4 = some (.p (.int (mix / (((right.eraseIdx i).length : Int) + 1)))) := by rw [e5]; exact cV_same (by rw [l2]; decide)
       rw [← e5]
       have A' : A3 σ4 c s msg came lost (right.eraseIdx i) (wrong ++ [k]) := ⟨l4, by rw [e5, e2, e1]; exact A.ky, by rw [e5]; exact o2, A.cl, A.sl, (g4 4 (by decide) (by decide)).trans A.c4, (g4 5 (by decide) (by decide)).trans A.c5, (g4 8 (by decide) (by decide)).trans A.c8, (g4 9 (by decide) (by decide)).trans A.c9, A.m1, A.m2, (g4 11 (by decide) (by decide)).trans A.c11, (g4 15 (by decide) (by decide)).trans A.c15, (g4 16 (by decide) (by decide)).trans A.c16, (g4 17 (by decide) (by decide)).trans A.c17, A.p, A.h3, hP, by simp; lia⟩
       exact spoil_loop n (a + 1) σ4 (right.eraseIdx i) (wrong ++ [k]) _ A' v12 hmx (by simp; lia) hb h
structure A4 (σ : St) (c : List Int) (s : Nat) (msg am : Int) (came lost right wrong : List Nat) : Prop where
 len : σ.vals.length = 50
 ky : σ.ky = Ky.no
 own : σ.own = [nP came, nP lost, nP right, nP wrong, [], []]
 cl : c.length = 6
 sl : s < 8
 c0 : cV 4 σ = some (.p (.lst (c.map .int)))
 c5 : cV 5 σ = some (.p (.lst ((win s).map .int)))
 c8 : cV 8 σ = some (.p (.int (bnd s)))
 c9 : cV 9 σ = some (.p (.int msg))
 m1 : -(bnd s - 1) ≤ msg
 m2 : msg ≤ bnd s - 1
 c11 : cV 11 σ = some (.own 1)
 c15 : cV 15 σ = some (.p (.int (brn s came : Int)))
 c17 : cV 17 σ = some (.own 3)
 c18 : cV 18 σ = some (.own 4)
 c19 : cV 19 σ = some (.own 5)
 c20 : cV 20 σ = some (.p (.int am))
 a0 : 0 ≤ am
 p : Parts came lost
 h3 : 3 ≤ came.length
 q : (right ++ wrong).Perm came
 w : wrong.length ≤ brn s came
theorem c_at {c : List Int} (hc : c.length = 6) {k : Nat} (hk : k < 6) : c[k]? = some (c.getD k 0) := by
 rw [List.getD_eq_getElem?_getD, List.getElem?_eq_getElem (by lia)]; rfl
theorem cell_of {σ : St} {c : List Int} (h : cV 4 σ = some (.p (.lst (c.map .int)))) (hc : c.length = 6) {k : Nat} (hk : k < 6) : cSub (cV 4) (cK (.int (k : Int))) σ = some (.p (.int (c.getD k 0))) := sub_int h rfl (by exact m3 ‹_› (by decide)) (c_at hc hk)
theorem came_last {came : List Nat} {i : Nat} (h : i < came.length) : came[i]? = some (came.getD i 0) := by
 rw [List.getD_eq_getElem?_getD, List.getElem?_eq_getElem h]; rfl
theorem prime_own {σ : St} {s j : Nat} {i : Nat} {ks : List Nat} {f : St → Option V} (h5 : cV 5 σ = some (.p (.lst ((win s).map .int)))) (hf : f σ = some (.own j)) (ho : σ.own[j]? = some (nP ks)) (hs : s < 8) (h1 : 1 ≤ i) (hi : i ≤ ks.length) (h7 : ∀ k ∈ ks, k < 7) (hl : ks.length ≤ 7) :
   cSub (cV 5) (cSub f (lift1 negP (cK (.int (i : Int))))) σ = some (.p (.int (pI s (ks.getD (ks.length - i) 0)))) := by
 have hg := came_last (came := ks) (i := ks.length - i) (by lia)
 have hm := h7 _ (List.mem_of_getElem? hg)
 exact sub_int h5 (sub_own (k := i) hf ho h1 (by rw [nP_len]; exact hi) (by lia) (by rw [nP_len]; exact nP_get hg)) (by exact m3 ‹_› (by decide)) (win_get hs hm)
theorem pk_all : ∀ s < 8, pk s [0, 1, 2, 3, 4, 5, 6] = prodI (win s) := by decide +kernel
theorem lenL {f : St → Option V} {σ : St} {xs : List P} (hf : f σ = some (.p (.lst xs))) (hl : xs.length ≤ 1000) : cApp lenA (cCons f cNil) σ = some (.p (.int (xs.length : Int))) := by
 refine cApp_of (vs := [.p (.lst xs)]) (cCons_of hf rfl) ?_
 show (match seqOf σ (.p (.lst xs)) with | some xs => if xs.length ≤ 100000 then some (P.int xs.length) else none | none => none) = _
 rw [show seqOf σ (.p (.lst xs)) = some xs from rfl]
 exact if_pos (by exact n9 ‹_› (by decide))
noncomputable def okW (B N : Int) : P → Bool
 | .int w => decide (4 * w * w * B ≤ N)
 | _ => false
theorem okW_len (B N : Int) : ∀ ws : List Int, ((ws.map P.int).filter (okW B N)).length = cnt (ws.map fun w => 4 * w * w * B) N
 | [] => rfl
 | w :: ws => by
   have ih := okW_len B N ws
   unfold cnt at ih ⊢
   rw [List.map_cons, List.map_cons, List.countP_cons, ← ih]
   cases h : decide (4 * w * w * B ≤ N) with
   | true => rw [List.filter_cons_of_pos (show okW B N (.int w) = true from h)]; simp
   | false => rw [List.filter_cons_of_neg (by rw [show okW B N (.int w) = false from h]; simp)]; simp
theorem modI {f g : St → Option V} {σ : St} {a b : Int} (hf : f σ = some (.p (.int a))) (hg : g σ = some (.p (.int b))) (hb : 0 < b) : lift2 modP f g σ = some (.p (.int (a % b))) := lift2_of hf hg (by (delta modP; dsimp only); rw [if_pos (by exact q7 ‹_›), Int.fmod_eq_emod_of_nonneg _ (by exact q1 ‹_›)])
theorem divI {f g : St → Option V} {σ : St} {a b : Int} (hf : f σ = some (.p (.int a))) (hg : g σ = some (.p (.int b))) (hb : 0 < b) (hb' : b.natAbs < 2 ^ 64) : lift2 fdivP f g σ = some (.p (.int (a / b))) := lift2_of hf hg (by (delta fdivP; dsimp only); rw [if_pos ⟨by lia, hb'⟩, Int.fdiv_eq_ediv_of_nonneg _ (by lia)])
theorem mulI {f g : St → Option V} {σ : St} {a b : Int} (hf : f σ = some (.p (.int a))) (hg : g σ = some (.p (.int b))) (hb : a.natAbs < 2 ^ 64) : lift2 mulP f g σ = some (.p (.int (a * b))) := lift2_of hf hg (by (delta mulP; dsimp only); rw [if_pos hb])
theorem addI {f g : St → Option V} {σ : St} {a b : Int} (hf : f σ = some (.p (.int a))) (hg : g σ = some (.p (.int b))) : lift2 addP f g σ = some (.p (.int (a + b))) := lift2_of hf hg rfl
theorem subI {f g : St → Option V} {σ : St} {a b : Int} (hf : f σ = some (.p (.int a))) (hg : g σ = some (.p (.int b))) : lift2 subP f g σ = some (.p (.int (a - b))) := lift2_of hf hg rfl
theorem pI_range {s k : Nat} (hs : s < 8) (hk : k < 7) : 11 ≤ pI s k ∧ pI s k ≤ 61 := win_at hs hk
theorem top_range {s : Nat} {came : List Nat} (hs : s < 8) (h7 : ∀ k ∈ came, k < 7) (h3 : 3 ≤ came.length) : ∀ w ∈ topI s came, 1 ≤ w ∧ w ≤ 4000 := by
 have g1 := came_last (came := came) (i := came.length - 1) (by lia)
 have g2 := came_last (came := came) (i := came.length - 2) (by lia)
 have r1 := pI_range hs (h7 _ (List.mem_of_getElem? g1))
 have r2 := pI_range hs (h7 _ (List.mem_of_getElem? g2))
 have u : pI s (came.getD (came.length - 1) 0) * pI s (came.getD (came.length - 2) 0) ≤ 61 * 61 := Int.mul_le_mul (by lia) (by lia) (by lia) (by decide)
 have l : 1 * 1 ≤ pI s (came.getD (came.length - 1) 0) * pI s (came.getD (came.length - 2) 0) := Int.mul_le_mul (by lia) (by lia) (by decide) (by lia)
 intro w hw
 simp only [topI, List.mem_cons, List.not_mem_nil, or_false] at hw
 rcases hw with rfl | rfl | rfl
 · decide
 · lia
 · lia
theorem borne_of {σ : St} {s : Nat} {came : List Nat} (h14 : (σ.vals[14]?).join = some (.p (.lst ((topI s came).map .int)))) (h8 : (σ.vals[8]?).join = some (.p (.int (bnd s)))) (h6 : (σ.vals[6]?).join = some (.p (.int (pk s came)))) (hs : s < 8) (h7 : ∀ k ∈ came, k < 7) (h3 : 3 ≤ came.length) (hb0 : 1 ≤ bnd s) (hb : bnd s < 2 ^ 24) (hc : 1 ≤ cnt ((topI s came).map fun w => 4 * w * w * bnd s) (pk s came)) :
   (lift2 subP (cApp lenA (cCons (cFz (nComp [some 8, some 6] (cB (lift2 leP (lift2 mulP (lift2 mulP (lift2 mulP (cK (.int 4)) (cV 1)) (cV 1)) (cV 2)) (cV 3))) (cV 1) (srcL (cV 14)))) cNil)) (cK (.int 1))) σ = some (.p (.int (brn s came : Int))) := by
 have hrest : restOf [some 8, some 6] σ = [some (.p (.int (bnd s))), some (.p (.int (pk s came)))] := by
   unfold restOf; simp only [List.map_cons, List.map_nil, Option.bind_some, h8, h6]
 have hn : nComp [some 8, some 6] (cB (lift2 leP (lift2 mulP (lift2 mulP (lift2 mulP (cK (.int 4)) (cV 1)) (cV 1)) (cV 2)) (cV 3))) (cV 1) (srcL (cV 14)) σ = some (((topI s came).map P.int).filter (okW (bnd s) (pk s came))) := by
   unfold nComp
   rw [show srcL (cV 14) σ = some ((topI s came).map P.int) by unfold srcL; rw [show cV 14 σ = _ from h14]]
   show (if ((topI s came).map P.int).length ≤ 1000 then compP _ _ _ _ _ ((topI s came).map P.int) [] else none) = _
   rw [if_pos (by rw [List.length_map]; exact (by decide : 3 ≤ 1000)), hrest, compP_filter (q := okW (bnd s) (pk s came)) ((topI s came).map P.int) [] ?_]
   · rfl
   · intro x hx acc
     obtain ⟨w, hw, rfl⟩ := List.mem_map.mp hx
     have hwr := top_range hs h7 h3 w hw
     have h4w : 4 * w * w ≤ 4 * 4000 * 4000 := Int.mul_le_mul (by lia) (by lia) (by lia) (by decide)
     have h4w' : 0 ≤ 4 * w * w := Int.mul_nonneg (by lia) (by lia)
     refine ⟨cB_of ?_, rfl⟩
     refine lift2_of (a := .int (4 * w * w * bnd s)) (b := .int (pk s came)) ?_ rfl rfl
     exact mulI (mulI (mulI (a := 4) (b := w) rfl rfl (by decide)) (b := w) rfl (by exact na (by lia))) (b := bnd s) rfl (by exact na (by lia))
 have hl := okW_len (bnd s) (pk s came) (topI s came)
 refine lift2_of (a := .int (cnt ((topI s came).map fun w => 4 * w * w * bnd s) (pk s came) : Int)) (b := .int 1) ?_ rfl ?_
 · rw [← hl]
   exact lenL (cFz_of hn) (by rw [hl]; exact Nat.le_trans cnt_le (by rw [List.length_map]; exact (by decide : 3 ≤ 1000)))
 · show some (P.int _) = some (P.int _)
   congr 2
   unfold brn
   lia
theorem ph2 {σ : St} {c : List Int} {s : Nat} {msg mix : Int} (A : A1 σ c s msg mix) {R : SW} {Po : Post} (h : ∀ σ am came lost right wrong, A4 σ c s msg am came lost right wrong → R σ Po) : wSeq wl9 (wSeq wl10 (wSeq wl11 (wSeq wl12 (wSeq wl13 (wSeq wl14 R))))) σ Po := by
 have hlen := A.len
 have hs := A.sl
 have hbf := bnd_facts s hs
 obtain ⟨n, hn⟩ : ∃ n : Nat, n = (c.getD 2 0 % 5).toNat := ⟨_, rfl⟩
 have hn5 : n < 5 := by lia
 refine ⟨c.getD 2 0 % 5, modI (cell_of A.c4 A.cl (k := 2) (by decide)) (b := 5) rfl (by decide), by lia, ?_⟩
 rw [← hn]
 have A0 : A2 σ c s msg [0, 1, 2, 3, 4, 5, 6] [] := ⟨hlen, A.ky, A.own, A.cl, hs, A.c4, A.c5, by rw [pk_all s hs]; exact A.c6, A.c8, A.c9, A.m1, A.m2, A.c10, A.c11, ⟨List.Perm.refl _, by decide⟩⟩
 refine lose_loop n 0 σ [0, 1, 2, 3, 4, 5, 6] [] mix A0 A.c12 A.x0 rfl (by lia) fun σ1 came lost B h3 => ?_
 have hl1 := B.len
 have hlt := B.p.lt.1
 have hcl := B.p.len
 obtain ⟨f1, f2, f3, f4, f5, f6⟩ := came_facts hs B.p.o hlt h3
 have g1 := came_last (came := came) (i := came.length - 1) (by lia)
 have r1 := pI_range hs (hlt _ (List.mem_of_getElem? g1))
 have p1 := prime_own (i := 1) B.c5 B.c10 (by rw [B.own]; rfl) hs (by decide) (by lia) hlt (by lia)
 have p2 := prime_own (i := 2) B.c5 B.c10 (by rw [B.own]; rfl) hs (by decide) (by exact n1 ‹_›) hlt (by lia)
 refine ⟨.p (.lst ((topI s came).map .int)), ?_, ?_⟩
 · exact cLst_of (vs := (topI s came).map fun n => .p (.int n)) (cCons_of rfl (cCons_of p1 (cCons_of (mulI p1 p2 (by exact na (by lia))) rfl))) rfl (by rw [List.length_map]; exact (by decide : 3 ≤ 1000))
 refine ⟨.p (.int (brn s came : Int)), ?_, ?_⟩
 · refine borne_of ?_ ?_ ?_ hs hlt h3 hbf.1 f3 f4
   · exact cV_same (by lia)
   · exact (cV_diff (by decide)).trans B.c8
   · exact (cV_diff (by decide)).trans B.c6
 obtain ⟨σ2, e2⟩ : ∃ σ2, σ2 = (σ1.put 14 (.p (.lst ((topI s came).map .int)))).put 15 (.p (.int (brn s came : Int))) := ⟨_, rfl⟩
 have l2 : σ2.vals.length = 50 := by rw [e2, put_len, put_len, hl1]
 have o2 : σ2.own = [nP came, nP lost] := by rw [e2]; exact B.own
 have d2 : ∀ j, j ≠ 14 → j ≠ 15 → cV j σ2 = cV j σ1 := fun j h1 h2 => by rw [e2]; exact (cV_diff (Ne.symm h2)).trans (cV_diff (Ne.symm h1))
 have v15 : cV 15 σ2 = some (.p (.int (brn s came : Int))) := by rw [e2]; exact cV_same (by rw [put_len, hl1]; decide)
 have k2 : σ2.ky = Ky.no := by rw [e2]; exact B.ky
 rw [← e2]
 obtain ⟨mx, hmx⟩ : ∃ mx, mx = c.getD 3 0 / 3 % 42 := ⟨_, rfl⟩
 refine ⟨nP came, [], .int mx, ?_, rfl, ?_, rfl, ?_⟩
 · show (match (cV 10 σ2).bind (lstOf σ2) with | some xs => if xs.length ≤ 1000 then some xs else none | none => none) = _
   rw [d2 10 (by decide) (by decide), B.c10]
   show (match σ2.own[0]? with | some xs => if xs.length ≤ 1000 then some xs else none | none => none) = _
   rw [o2]
   exact if_pos (by rw [nP_len]; lia)
 · rw [hmx]
   refine modI (divI (cell_of (k := 3) ?_ B.cl (by decide)) (b := 3) rfl (by decide) (by decide)) (b := 42) rfl (by decide)
   exact (d2 4 (by decide) (by decide)).trans B.c4
 obtain ⟨σ3, e3⟩ : ∃ σ3, σ3 = (((((σ2.add (nP came)).add []).put 12 (.p (.int mx))).put 17 (.own (σ2.own.length + 1))).put 16 (.own σ2.own.length)) := ⟨_, rfl⟩
 have l3 : σ3.vals.length = 50 := by rw [e3]; simp [put_len, add_len, l2]
 have o3 : σ3.own = [nP came, nP lost, nP came, []] := by rw [e3]; simp [put_own, add_own, o2]
 have k3 : σ3.ky = Ky.no := by rw [e3]; exact k2
 have d3 : ∀ j, j ≠ 12 → j ≠ 17 → j ≠ 16 → cV j σ3 = cV j σ2 := fun j h1 h2 h3 => by
   rw [e3]; exact (cV_diff (Ne.symm h3)).trans ((cV_diff (Ne.symm h2)).trans ((cV_diff (Ne.symm h1)).trans rfl))
 have v12 : cV 12 σ3 = some (.p (.int mx)) := by
   rw [e3]; exact (cV_diff (by decide)).trans ((cV_diff (by decide)).trans (cV_same (by simp [add_len, l2])))
 have v17 : cV 17 σ3 = some (.own 3) := by
   rw [e3]; refine (cV_diff (by decide)).trans ((cV_same (by simp [add_len, put_len, l2])).trans ?_); rw [o2]; rfl
 have v16 : cV 16 σ3 = some (.own 2) := by
   rw [e3]; refine (cV_same (by simp [add_len, put_len, l2])).trans ?_; rw [o2]; rfl
 rw [← e3]
 have dd : ∀ j, j ≠ 12 → j ≠ 17 → j ≠ 16 → j ≠ 14 → j ≠ 15 → cV j σ3 = cV j σ1 := fun j h1 h2 h3 h4 h5 => (d3 j h1 h2 h3).trans (d2 j h4 h5)
 have A3' : A3 σ3 c s msg came lost came [] := ⟨l3, k3, o3, B.cl, hs, (dd 4 (by decide) (by decide) (by decide) (by decide) (by decide)).trans B.c4, (dd 5 (by decide) (by decide) (by decide) (by decide) (by decide)).trans B.c5, (dd 8 (by decide) (by decide) (by decide) (by decide) (by decide)).trans B.c8, (dd 9 (by decide) (by decide) (by decide) (by decide) (by decide)).trans B.c9, B.m1, B.m2, (dd 11 (by decide) (by decide) (by decide) (by decide) (by decide)).trans B.c11, (d3 15 (by decide) (by decide) (by decide)).trans v15, v16, v17, B.p, h3, by rw [List.append_nil], Nat.zero_le _⟩
 obtain ⟨m, hm⟩ : ∃ m : Nat, m = (c.getD 3 0 % ((brn s came : Int) + 1)).toNat := ⟨_, rfl⟩
 have hr0 := Int.emod_nonneg (c.getD 3 0) (show (brn s came : Int) + 1 ≠ 0 by lia)
 have hr1 := Int.emod_lt_of_pos (c.getD 3 0) (show 0 < (brn s came : Int) + 1 by lia)
 refine ⟨c.getD 3 0 % ((brn s came : Int) + 1), modI (cell_of A3'.c4 A3'.cl (k := 3) (by decide)) (addI A3'.c15 (b := 1) rfl) (by exact q3 ‹_› ‹_›), by lia, ?_⟩
 rw [← hm]
 refine spoil_loop m 0 σ3 came [] mx A3' v12 (by lia) (by simp; lia) f5 fun σ4 right wrong C => ?_
 have l4 := C.len
 refine ⟨[], [], .int (c.getD 4 0 % 3600), rfl, rfl, ?_, rfl, ?_⟩
 · exact modI (cell_of (σ := (σ4.add []).add []) (k := 4) C.c4 C.cl (by decide)) (b := 3600) rfl (by decide)
 obtain ⟨σ5, e5⟩ : ∃ σ5, σ5 = (((((σ4.add []).add []).put 20 (.p (.int (c.getD 4 0 % 3600)))).put 19 (.own (σ4.own.length + 1))).put 18 (.own σ4.own.length)) := ⟨_, rfl⟩
 have l5 : σ5.vals.length = 50 := by rw [e5]; simp [put_len, add_len, l4]
 have d5 : ∀ j, j ≠ 20 → j ≠ 19 → j ≠ 18 → cV j σ5 = cV j σ4 := fun j h1 h2 h3 => by
   rw [e5]; exact (cV_diff (Ne.symm h3)).trans ((cV_diff (Ne.symm h2)).trans ((cV_diff (Ne.symm h1)).trans rfl))
 rw [← e5]
 refine h σ5 (c.getD 4 0 % 3600) came lost right wrong ⟨l5, by rw [e5]; exact C.ky, ?_, C.cl, hs, (d5 4 (by decide) (by decide) (by decide)).trans C.c4, (d5 5 (by decide) (by decide) (by decide)).trans C.c5, (d5 8 (by decide) (by decide) (by decide)).trans C.c8, (d5 9 (by decide) (by decide) (by decide)).trans C.c9, C.m1, C.m2, (d5 11 (by decide) (by decide) (by decide)).trans C.c11, (d5 15 (by decide) (by decide) (by decide)).trans C.c15, (d5 17 (by decide) (by decide) (by decide)).trans C.c17, ?_, ?_, ?_, by lia, C.p, C.h3, C.q, C.w⟩
 · rw [e5]; simp [put_own, add_own, C.own]
 · rw [e5]; refine (cV_same (by simp [add_len, put_len, l4])).trans ?_; rw [C.own]; rfl
 · rw [e5]; refine (cV_diff (by decide)).trans ((cV_same (by simp [add_len, put_len, l4])).trans ?_); rw [C.own]; rfl
 · rw [e5]; exact (cV_diff (by decide)).trans ((cV_diff (by decide)).trans (cV_same (by simp [add_len, l4])))
theorem num_figs {n : Int} (h0 : 0 ≤ n) : ∀ c ∈ cl (Str.ofString (toString n)), 48 ≤ c ∧ c ≤ 57 := by
 obtain ⟨m, rfl⟩ := Int.eq_ofNat_of_zero_le h0
 intro c hc
 rw [show cl (Str.ofString (toString ((m : Nat) : Int))) = (Nat.toDigits 10 m).map Char.toNat from KIN.signs_num m] at hc
 obtain ⟨ch, hch, e⟩ := List.mem_map.mp hc
 rw [← e]
 exact PyProof.Rows.digit_range (Nat.isDigit_of_mem_toDigits (by decide) (by decide) hch)
noncomputable def hS (k : Nat) : Str := if k % 2 = 1 then Str.ofString "h" else Str.ofString ""
noncomputable def hL (k : Nat) : List Nat := if k % 2 = 1 then [104] else []
theorem hS_cl (k : Nat) : cl (hS k) = hL k := by
 unfold hS hL
 split
 · decide +kernel
 · decide +kernel
noncomputable def txI (m k : Nat) (n : Int) : Str := ⟨#[m]⟩ ++ hS k ++ Txt.mul ⟨#[m]⟩ 2 ++ Str.ofString (toString n) ++ ⟨#[m]⟩
theorem mulT2 {m : Nat} : cl (Txt.mul ⟨#[m]⟩ 2) = [m, m] := rfl
theorem txt_in9 {m k : Nat} {n : Int} (hm : m = 124 ∨ m = 33 ∨ m = 59 ∨ m = 126) (h0 : 0 ≤ n) (h1 : n < 10000) : In9 m (hL k) (cl (Str.ofString (toString n))) n (txI m k n) := by
 refine ⟨hm, ?_, num_figs h0, ?_, ?_, ?_⟩
 · unfold hL; split
   · exact .inr rfl
   · exact .inl rfl
 · rw [← cl_len]; exact KT.len_num h0 (by exact r1 ‹_› (by decide))
 · have := KIN.num_reads h0 (show n < 10 ^ 10 by exact r1 ‹_› (by decide))
   exact this
 · unfold txI
   rw [cl_app, cl_app, cl_app, cl_app, mulT2, hS_cl, show cl ⟨#[m]⟩ = [m] from rfl]
   simp
theorem app_len (x y : Str) : (x ++ y).length = x.length + y.length := by rw [cl_len, cl_len x, cl_len y, cl_app]; simp
noncomputable def marks : List Nat := [124, 33, 59, 126]
theorem marks_cps : cl (Str.ofString "|!;~") = marks := by decide +kernel
theorem lt0 {P : Nat → Prop} : ∀ j, j < 0 → P j := fun _ h => absurd h (Nat.not_lt_zero _)
theorem ltS {P : Nat → Prop} {n : Nat} (h : ∀ j, j < n → P j) (k : P n) : ∀ j, j < n + 1 → P j := fun j hj => (Nat.lt_succ_iff_lt_or_eq.mp hj).elim (h j) fun e => e ▸ k
theorem mark_of {f g : St → Option V} {σ : St} {j : Nat} (hg : g σ = some (.p (.int (j : Int)))) (hj : j < 4) : cSub (cK (.str (Str.ofString "|!;~"))) g σ = some (.p (.str ⟨#[marks.getD j 0]⟩)) := by
 have hl : (Str.ofString "|!;~").length = 4 := by decide +kernel
 have ha : (Str.ofString "|!;~").cps = marks.toArray := Array.toList_inj.mp (by rw [show (Str.ofString "|!;~").cps.toList = marks from marks_cps])
 refine cSub_of (v := .p (.str (Str.ofString "|!;~"))) rfl hg (by lia) ?_
 show ((seqIndex? (j : Int) (Str.ofString "|!;~").length).bind ((Str.ofString "|!;~").cps[·]?)).map (fun c => P.str ⟨#[c]⟩) = _
 rw [hl, idx_pos hj, Option.bind_some, ha]
 exact ltS (P := fun j => Option.map (fun c => P.str ⟨#[c]⟩) marks.toArray[j]? = some (P.str ⟨#[marks.getD j 0]⟩)) (ltS (ltS (ltS lt0 rfl) rfl) rfl) rfl j hj
theorem mark_mm {j : Nat} (hj : j < 4) : marks.getD j 0 = 124 ∨ marks.getD j 0 = 33 ∨ marks.getD j 0 = 59 ∨ marks.getD j 0 = 126 := by
 match j, hj with
 | 0, _ => exact .inl rfl
 | 1, _ => exact .inr (.inl rfl)
 | 2, _ => exact .inr (.inr (.inl rfl))
 | 3, _ => exact .inr (.inr (.inr rfl))
theorem addS {f g : St → Option V} {σ : St} {a b : Str} (hf : f σ = some (.p (.str a))) (hg : g σ = some (.p (.str b))) (hl : a.length + b.length ≤ 1000) : lift2 addP f g σ = some (.p (.str (a ++ b))) := lift2_of hf hg (if_pos hl)
theorem mulS {f : St → Option V} {σ : St} {m n : Nat} (hf : f σ = some (.p (.str ⟨#[m]⟩))) (hn : n ≤ 16) : lift2 mulP f (cK (.int (n : Int))) σ = some (.p (.str (Txt.mul ⟨#[m]⟩ (n : Int)))) := by
 refine lift2_of (b := .int (n : Int)) hf rfl ?_
 (delta mulP; dsimp only)
 exact if_pos ⟨(by decide : 1 ≤ 1000), by exact r6, by lia⟩
theorem hS_len (k : Nat) : (hS k).length ≤ 1 := by
 rw [cl_len, hS_cl]; unfold hL; split <;> simp
theorem num_len {n : Int} (h0 : 0 ≤ n) (h1 : n < 10000) : (Str.ofString (toString n)).length ≤ 10 := KT.len_num h0 (by lia)
theorem txI_len {m k : Nat} {n : Int} (hm : m = 124 ∨ m = 33 ∨ m = 59 ∨ m = 126) (h0 : 0 ≤ n) (h1 : n < 10000) : (txI m k n).length ≤ 15 := by
 rw [cl_len]; exact (txt_in9 hm h0 h1).len
theorem text_of {σ : St} {m k : Nat} {n : Int} {f : St → Option V} (h25 : cV 25 σ = some (.p (.str ⟨#[m]⟩))) (h3 : cV 3 σ = some (.p (.int (k : Int)))) (hf : f σ = some (.p (.int n))) (h0 : 0 ≤ n) (h1 : n < 10000) :
   (lift2 addP (lift2 addP (lift2 addP (lift2 addP (cV 25) (cSub (cLst (cCons (cK (.str (Str.ofString ""))) (cCons (cK (.str (Str.ofString "h"))) cNil))) (lift2 modP (cV 3) (cK (.int 2))))) (lift2 mulP (cV 25) (cK (.int 2)))) (cApp strA (cCons f cNil))) (cV 25)) σ = some (.p (.str (txI m k n))) := by
 have e1 : (⟨#[m]⟩ : Str).length = 1 := rfl
 have e2 : (Txt.mul (⟨#[m]⟩ : Str) 2).length = 2 := by rw [cl_len, mulT2]; rfl
 have e3 := hS_len k
 have e4 := num_len h0 h1
 have hh : cSub (cLst (cCons (cK (.str (Str.ofString ""))) (cCons (cK (.str (Str.ofString "h"))) cNil))) (lift2 modP (cV 3) (cK (.int 2))) σ = some (.p (.str (hS k))) := by
   refine cSub_of (v := .p (.lst [.str (Str.ofString ""), .str (Str.ofString "h")])) (k := ((k % 2 : Nat) : Int)) (cLst_of (vs := [.p (.str (Str.ofString "")), .p (.str (Str.ofString "h"))]) rfl rfl (by decide)) ?_ (by lia) ?_
   · have := modI (f := cV 3) (g := cK (.int 2)) (σ := σ) (a := (k : Int)) (b := 2) h3 rfl (by decide)
     rw [this]; congr 3
   · show (seqIndex? ((k % 2 : Nat) : Int) 2).bind (([.str (Str.ofString ""), .str (Str.ofString "h")] : List P)[·]?) = _
     rw [idx_pos (by lia), Option.bind_some]
     unfold hS
     rcases Nat.mod_two_eq_zero_or_one k with h | h
     · rw [h, if_neg (by decide)]; rfl
     · rw [h, if_pos rfl]; rfl
 have hs : cApp strA (cCons f cNil) σ = some (.p (.str (Str.ofString (toString n)))) := by
   refine cApp_of (vs := [.p (.int n)]) (cCons_of hf rfl) ?_
   show (if n.natAbs < 2 ^ 64 then some (P.str (Str.ofString (toString n))) else none) = _
   exact if_pos (by lia)
 refine addS (addS (addS (addS h25 hh (by lia)) (mulS (n := 2) h25 (by decide)) ?_) hs ?_) h25 ?_
 · rw [app_len, show (Txt.mul (⟨#[m]⟩ : Str) 2).length = 2 from e2]; lia
 · rw [app_len, app_len, show (Txt.mul (⟨#[m]⟩ : Str) 2).length = 2 from e2]; lia
 · rw [app_len, app_len, app_len, show (Txt.mul (⟨#[m]⟩ : Str) 2).length = 2 from e2]; lia
noncomputable def odds (m : Nat) (I : Str) : List Str := [Str.ofString "227 (" ++ I ++ Str.ofString ")", Str.ofString "229 " ++ I ++ Str.ofString ")", Str.ofString "229 (" ++ I, Str.ofString "229 (" ++ I ++ Str.ofString "x)", Str.ofString "229 272)"]
noncomputable def odds2 (m : Nat) (I : Str) : List Str := [Str.ofString "229 (" ++ ⟨#[m]⟩ ++ I ++ Str.ofString ")", Str.ofString "229 (" ++ I ++ ⟨#[m]⟩, Str.ofString "229 (" ++ Txt.mul ⟨#[m]⟩ 3 ++ Str.ofString "x" ++ ⟨#[m]⟩ ++ Str.ofString ")"]
noncomputable def oddAll (m : Nat) (I : Str) : List Str := odds m I ++ odds2 m I
noncomputable def kindS (r : Nat) : Str := if r = 0 then Str.ofString "reply" else if r = 7 then Str.ofString "number" else Str.ofString "proto"
theorem odd_port {m : Nat} {hs ds : List Nat} {n : Int} {I : Str} (H : In9 m hs ds n I) {r : Nat} (hr : r < 8) : ∃ x, (oddAll m I)[r]? = some x ∧ PortIs x (.lst [.str (kindS r), .str x]) := by
 exact ltS (P := fun r => ∃ x, (oddAll m I)[r]? = some x ∧ PortIs x (.lst [.str (kindS r), .str x])) (ltS (ltS (ltS (ltS (ltS (ltS (ltS lt0 ⟨_, rfl, H.odd0⟩) ⟨_, rfl, H.odd1⟩) ⟨_, rfl, H.odd2⟩) ⟨_, rfl, H.odd3⟩) ⟨_, rfl, odd4⟩) ⟨_, rfl, H.odd5⟩) ⟨_, rfl, H.odd6⟩) ⟨_, rfl, H.odd7⟩ r hr
theorem odds_of {σ : St} {m : Nat} {I : Str} (h26 : cV 26 σ = some (.p (.str I))) (hI : I.length ≤ 15) :
   nLst (cCons (lift2 addP (lift2 addP (cK (.str (Str.ofString "227 ("))) (cV 26)) (cK (.str (Str.ofString ")")))) (cCons (lift2 addP (lift2 addP (cK (.str (Str.ofString "229 "))) (cV 26)) (cK (.str (Str.ofString ")")))) (cCons (lift2 addP (cK (.str (Str.ofString "229 ("))) (cV 26)) (cCons (lift2 addP (lift2 addP (cK (.str (Str.ofString "229 ("))) (cV 26)) (cK (.str (Str.ofString "x)")))) (cCons (cK (.str (Str.ofString "229 272)"))) cNil))))) σ = some ((odds m I).map .str) := by
 have l1 : (Str.ofString "227 (").length = 5 := by rw [cl_len, c1]; rfl
 have l2 : (Str.ofString "229 ").length = 4 := by rw [cl_len, c2]; rfl
 have l3 : (Str.ofString "229 (").length = 5 := by rw [cl_len, c3]; rfl
 have l4 : (Str.ofString ")").length = 1 := by rw [cl_len, c4]; rfl
 have l5 : (Str.ofString "x)").length = 2 := by rw [cl_len, c5]; rfl
 refine nLst_of (vs := (odds m I).map fun x => .p (.str x)) (cCons_of (addS (addS rfl h26 (by lia)) rfl (by rw [app_len]; lia)) (cCons_of (addS (addS rfl h26 (by lia)) rfl (by rw [app_len]; lia)) (cCons_of (addS rfl h26 (by lia)) (cCons_of (addS (addS rfl h26 (by lia)) rfl (by rw [app_len]; lia)) (cCons_of rfl rfl))))) rfl (Nat.le_of_ble_eq_true rfl)
theorem odds2_of {σ : St} {m : Nat} {I : Str} (h25 : cV 25 σ = some (.p (.str ⟨#[m]⟩))) (h26 : cV 26 σ = some (.p (.str I))) (hI : I.length ≤ 15) :
   nLst (cCons (lift2 addP (lift2 addP (lift2 addP (cK (.str (Str.ofString "229 ("))) (cV 25)) (cV 26)) (cK (.str (Str.ofString ")")))) (cCons (lift2 addP (lift2 addP (cK (.str (Str.ofString "229 ("))) (cV 26)) (cV 25)) (cCons (lift2 addP (lift2 addP (lift2 addP (lift2 addP (cK (.str (Str.ofString "229 ("))) (lift2 mulP (cV 25) (cK (.int 3)))) (cK (.str (Str.ofString "x")))) (cV 25)) (cK (.str (Str.ofString ")")))) cNil))) σ = some ((odds2 m I).map .str) := by
 have l3 : (Str.ofString "229 (").length = 5 := by rw [cl_len, c3]; rfl
 have l4 : (Str.ofString ")").length = 1 := by rw [cl_len, c4]; rfl
 have l6 : (Str.ofString "x").length = 1 := by rw [cl_len, c7]; rfl
 have l7 : (⟨#[m]⟩ : Str).length = 1 := rfl
 have l8 : (Txt.mul (⟨#[m]⟩ : Str) 3).length = 3 := by rw [cl_len]; rfl
 refine nLst_of (vs := (odds2 m I).map fun x => .p (.str x)) (cCons_of (addS (addS (addS rfl h25 (by lia)) h26 (by rw [app_len]; lia)) rfl (by rw [app_len, app_len]; lia)) (cCons_of (addS (addS rfl h26 (by lia)) h25 (by rw [app_len]; lia)) (cCons_of (addS (addS (addS (addS rfl (mulS (n := 3) h25 (by decide)) (by lia)) rfl (by rw [app_len]; lia)) h25 (by rw [app_len, app_len]; lia)) rfl (by rw [app_len, app_len, app_len]; lia)) rfl))) rfl (Nat.le_of_ble_eq_true rfl)
theorem good_of {σ : St} {I : Str} (h26 : cV 26 σ = some (.p (.str I))) (hI : I.length ≤ 15) : lift2 addP (lift2 addP (cK (.str (Str.ofString "229 Entering ) ("))) (cV 26)) (cK (.str (Str.ofString ") (a)"))) σ = some (.p (.str (Str.ofString "229 Entering ) (" ++ I ++ Str.ofString ") (a)"))) := by
 have l8 : (Str.ofString "229 Entering ) (").length = 16 := by rw [cl_len, c8]; rfl
 have l9 : (Str.ofString ") (a)").length = 5 := by rw [cl_len, c9]; rfl
 exact addS (addS rfl h26 (by lia)) rfl (by rw [app_len]; lia)
theorem neD_self {σ : St} {v : V} {d : PyData} (h : dV σ v = some d) (hs : PySem.SeqAt.shaped d = true) : neD σ v v = some (.bool false) := by
 unfold neD
 rw [h]
 show (if _ then some (P.bool (!PyData.eqv d d)) else none) = _
 rw [if_pos ⟨hs, hs⟩, PySem.SeqAt.eqv_refl d (PySem.SeqAt.canLay_of_shaped hs)]; rfl
theorem ne_self {f g : St → Option V} {σ : St} {v : V} {d : PyData} (hf : f σ = some v) (hg : g σ = some v) (h : dV σ v = some d) (hs : PySem.SeqAt.shaped d = true) : cB (lift2V neD f g) σ = some false := by
 refine cB_of ?_
 unfold lift2V
 rw [hf, hg]
 simp only [neD_self h hs, Option.map_some]
theorem sh_ii (a b : Int) : PySem.SeqAt.shaped (.list [.int a, .int b]) = true := rfl
theorem two_lst {f g : St → Option V} {σ : St} {a b : P} (h1 : f σ = some (.p a)) (h2 : g σ = some (.p b)) : cLst (cCons f (cCons g cNil)) σ = some (.p (.lst [a, b])) := cLst_of (vs := [.p a, .p b]) (cCons_of h1 (cCons_of h2 rfl)) rfl (Nat.le_of_ble_eq_true rfl)
theorem opD_of {a b : Int} (ha : a.natAbs < 2 ^ 64) (hb : b ≠ 0) (hb' : b.natAbs < 2 ^ 64) : opD [.int a, .int b] = some (.tup [.int (qD a b), .int (rD a b)]) := by
 unfold opD
 exact if_pos ⟨ha, hb, hb'⟩
theorem callD {f g : St → Option V} {σ : St} {a b : Int} (hf : f σ = some (.p (.int a))) (hg : g σ = some (.p (.int b))) (ha : a.natAbs < 2 ^ 64) (hb : b ≠ 0) (hb' : b.natAbs < 2 ^ 64) : cApp (opF opD) (cCons f (cCons g cNil)) σ = some (.p (.tup [.int (qD a b), .int (rD a b)])) :=
 cApp_of (vs := [.p (.int a), .p (.int b)]) (cCons_of hf (cCons_of hg rfl)) (opF_of (ps := [.int a, .int b]) rfl (opD_of ha hb hb'))
noncomputable def sgn (k : Nat) : Int := if k % 2 = 1 then 1 else -1
theorem sgn_or (k : Nat) : sgn k = 1 ∨ sgn k = -1 := by unfold sgn; split <;> simp
theorem sgn_q {k : Nat} {m p : Int} (hp : 0 < p) : qD (sgn k * m) (sgn k * p) = m / p ∧ sgn k * rD (sgn k * m) (sgn k * p) = m % p := by
 rcases sgn_or k with h | h <;> rw [h]
 · unfold qD rD
   rw [if_pos (by lia), if_pos (by lia)]; simp
 · unfold qD rD
   rw [if_neg (by lia), if_neg (by lia)]; simp
theorem sgn_of {σ : St} {k : Nat} (h3 : cV 3 σ = some (.p (.int (k : Int)))) : (cIf (cB (lift2 eqP (lift2 modP (cV 3) (cK (.int 2))) (cK (.int 1)))) (cK (.int 1)) (lift1 negP (cK (.int 1)))) σ = some (.p (.int (sgn k))) := by
 have hm := modI (f := cV 3) (g := cK (.int 2)) (σ := σ) (a := (k : Int)) (b := 2) h3 rfl (by decide)
 by_cases h : k % 2 = 1
 · refine cIf_t (cB_of (lift2_of hm (b := .int 1) rfl ?_)) ?_
   · show some (P.bool ((k : Int) % 2 == 1)) = _
     rw [show (k : Int) % 2 = 1 by lia]; rfl
   · unfold sgn; rw [if_pos h]; rfl
 · refine cIf_f (cB_of (lift2_of hm (b := .int 1) rfl ?_)) ?_
   · show some (P.bool ((k : Int) % 2 == 1)) = _
     rw [show (k : Int) % 2 = 0 by lia]; rfl
   · unfold sgn; rw [if_neg h]; rfl
theorem in_own {f g : St → Option V} {σ : St} {k j : Nat} {ks : List Nat} (hf : f σ = some (.p (.int (k : Int)))) (hg : g σ = some (.own j)) (ho : σ.own[j]? = some (nP ks)) : cIn f g σ = some (.p (.bool (decide (k ∈ ks)))) := by
 have hi : ∀ ks : List Nat, intsP (nP ks) = some (ks.map fun (k : Nat) => (k : Int)) := fun ks => by
   induction ks with
   | nil => rfl
   | cons a ks ih => show (intsP (nP ks)).map _ = _; rw [ih]; rfl
 unfold cIn
 rw [hf, hg]
 show ((σ.own[j]?).bind intsP).map _ = _
 rw [ho, Option.bind_some, hi]
 show some (V.p (P.bool _)) = _
 congr 3
 by_cases h : k ∈ ks
 · rw [decide_eq_true h]; simp; exact ⟨k, h, rfl⟩
 · rw [decide_eq_false h]; simp; intro x hx e; have e' : x = k := by lia
   exact h (e' ▸ hx)
structure Good (s : Nat) (msg : Int) (wrong : List Nat) (k : Nat) (x : Int) : Prop where
 x0 : 0 ≤ x
 x1 : x < pI s k
 r : k ∉ wrong → x = msg % pI s k
 w : k ∈ wrong → x ≠ msg % pI s k
theorem wrong_share {p r a : Int} (hp : 11 ≤ p) (hr0 : 0 ≤ r) (hr1 : r < p) (ha : 0 ≤ a) : (r + 1 + a % (p - 1)) % p ≠ r := by
 have h0 := Int.emod_nonneg a (show p - 1 ≠ 0 by lia)
 have h1 := Int.emod_lt_of_pos a (show 0 < p - 1 by lia)
 obtain ⟨u, hu⟩ : ∃ u, u = a % (p - 1) := ⟨_, rfl⟩
 rw [← hu] at h0 h1 ⊢
 by_cases h : r + 1 + u < p
 · rw [Int.emod_eq_of_lt (by lia) h]; lia
 · have e : (r + 1 + u) % p = (r + 1 + u - p) % p := by rw [Int.sub_emod_right]
   rw [e, Int.emod_eq_of_lt (by lia) (by lia)]; lia
noncomputable def kOf (c : List Int) (t : Nat) : Nat := (t + (c.getD 5 0 % 7).toNat) % 7
theorem kOf_lt {c : List Int} {t : Nat} : kOf c t < 7 := Nat.mod_lt _ (by decide)
theorem turn_a {σ : St} {c : List Int} {s t : Nat} {msg am : Int} {wrong : List Nat} {R : SW} {Po : Post} (hlen : σ.vals.length = 50) (hcl : c.length = 6) (hs : s < 8) (h4 : cV 4 σ = some (.p (.lst (c.map .int)))) (h5 : cV 5 σ = some (.p (.lst ((win s).map .int))))
   (h9 : cV 9 σ = some (.p (.int msg))) (h17 : cV 17 σ = some (.own 3)) (ho : σ.own[3]? = some (nP wrong)) (h20 : cV 20 σ = some (.p (.int am))) (ha : 0 ≤ am) (h21 : cV 21 σ = some (.p (.int (t : Int)))) (hm : msg.natAbs < 2 ^ 40)
   (h : ∀ σ' x am', Same [3, 20, 22, 23, 24] σ σ' → σ'.own = σ.own → cV 3 σ' = some (.p (.int (kOf c t : Int))) → cV 24 σ' = some (.p (.int x)) → cV 20 σ' = some (.p (.int am')) → 0 ≤ am' → Good s msg wrong (kOf c t) x → R σ' Po) :
   wSeq wt0 (wSeq wt1 (wSeq wt2 (wSeq wt3 (wSeq wt4 (wSeq wt5 R))))) σ Po := by
 obtain ⟨k, hk⟩ : ∃ k, k = kOf c t := ⟨_, rfl⟩
 have hk7 : k < 7 := by rw [hk]; exact kOf_lt
 have hki : ((t : Int) + c.getD 5 0) % 7 = (k : Int) := by rw [hk]; unfold kOf; lia
 obtain ⟨p, hp⟩ : ∃ p, p = pI s k := ⟨_, rfl⟩
 have hpr : 11 ≤ p ∧ p ≤ 61 := by rw [hp]; exact pI_range hs hk7
 have hwin : (win s)[k]? = some p := by rw [hp]; exact win_get hs hk7
 rw [← hk] at h
 refine ⟨.p (.int (k : Int)), ?_, ?_⟩
 · rw [← hki]
   exact modI (addI h21 (cell_of h4 hcl (k := 5) (by decide))) (b := 7) rfl (by decide)
 obtain ⟨σ1, e1⟩ : ∃ σ1, σ1 = σ.put 3 (.p (.int (k : Int))) := ⟨_, rfl⟩
 have l1 : σ1.vals.length = 50 := by rw [e1, put_len, hlen]
 have d1 : ∀ j, j ≠ 3 → cV j σ1 = cV j σ := fun j hj => by rw [e1]; exact cV_diff (Ne.symm hj)
 have v1 : cV 3 σ1 = some (.p (.int (k : Int))) := by rw [e1]; exact cV_same (by lia)
 rw [← e1]
 refine ⟨.p (.int (sgn k)), sgn_of v1, ?_⟩
 obtain ⟨σ2, e2⟩ : ∃ σ2, σ2 = σ1.put 22 (.p (.int (sgn k))) := ⟨_, rfl⟩
 have l2 : σ2.vals.length = 50 := by rw [e2, put_len, l1]
 have d2 : ∀ j, j ≠ 22 → cV j σ2 = cV j σ1 := fun j hj => by rw [e2]; exact cV_diff (Ne.symm hj)
 have v22 : cV 22 σ2 = some (.p (.int (sgn k))) := by rw [e2]; exact cV_same (by lia)
 rw [← e2]
 have hsg := sgn_or k
 have b1 : (sgn k * msg).natAbs < 2 ^ 64 := by rcases hsg with e | e <;> rw [e] <;> exact na (by lia)
 have b2 : sgn k * p ≠ 0 := by rcases hsg with e | e <;> rw [e] <;> lia
 have b3 : (sgn k * p).natAbs < 2 ^ 64 := by rcases hsg with e | e <;> rw [e] <;> exact na (by lia)
 have b4 : (sgn k).natAbs < 2 ^ 64 := by rcases hsg with e | e <;> rw [e] <;> decide
 obtain ⟨q1, q2⟩ := sgn_q (k := k) (m := msg) (p := p) (by lia)
 obtain ⟨r, hr⟩ : ∃ r, r = rD (sgn k * msg) (sgn k * p) := ⟨_, rfl⟩
 have hp2 : cSub (cV 5) (cV 3) σ2 = some (.p (.int p)) := sub_int ((d2 5 (by decide)).trans ((d1 5 (by decide)).trans h5)) ((d2 3 (by decide)).trans v1) (by exact m3 ‹_› (by decide)) hwin
 have w9 : cV 9 σ2 = some (.p (.int msg)) := (d2 9 (by decide)).trans ((d1 9 (by decide)).trans h9)
 refine ⟨.p (.tup [.int (msg / p), .int r]), [.int (msg / p), .int r], (σ2.put 23 (.p (.int (msg / p)))).put 24 (.p (.int r)), ?_, rfl, rfl, ?_⟩
 · rw [← q1, hr]
   exact callD (mulI v22 w9 b4) (mulI v22 hp2 b4) b1 b2 b3
 obtain ⟨σ3, e3⟩ : ∃ σ3, σ3 = (σ2.put 23 (.p (.int (msg / p)))).put 24 (.p (.int r)) := ⟨_, rfl⟩
 have l3 : σ3.vals.length = 50 := by rw [e3, put_len, put_len, l2]
 have d3 : ∀ j, j ≠ 23 → j ≠ 24 → cV j σ3 = cV j σ2 := fun j h1 h2 => by rw [e3]; exact (cV_diff (Ne.symm h2)).trans (cV_diff (Ne.symm h1))
 have v24 : cV 24 σ3 = some (.p (.int r)) := by rw [e3]; exact cV_same (by rw [put_len, l2]; decide)
 have v23 : cV 23 σ3 = some (.p (.int (msg / p))) := by rw [e3]; exact (cV_diff (by decide)).trans (cV_same (by lia))
 rw [← e3]
 have hrm : sgn k * r = msg % p := by rw [hr]; exact q2
 have hrm' : r * sgn k = msg % p := by rw [Int.mul_comm]; exact hrm
 have w22 : cV 22 σ3 = some (.p (.int (sgn k))) := (d3 22 (by decide) (by decide)).trans v22
 have hp3 : cSub (cV 5) (cV 3) σ3 = some (.p (.int p)) := sub_int ((d3 5 (by decide) (by decide)).trans ((d2 5 (by decide)).trans ((d1 5 (by decide)).trans h5))) ((d3 3 (by decide) (by decide)).trans ((d2 3 (by decide)).trans v1)) (by exact m3 ‹_› (by decide)) hwin
 have w9' : cV 9 σ3 = some (.p (.int msg)) := (d3 9 (by decide) (by decide)).trans w9
 have hr0 := Int.emod_nonneg msg (show p ≠ 0 by lia)
 have hr1 := Int.emod_lt_of_pos msg (show 0 < p by lia)
 have hrb : r.natAbs < 2 ^ 64 := by rcases hsg with e | e <;> rw [e] at hrm <;> exact na (by lia)
 refine ⟨false, ?_, ?_⟩
 · refine ne_self (v := .p (.lst [.int (msg / p), .int (msg % p)])) (d := .list [.int (msg / p), .int (msg % p)]) (two_lst v23 ?_) (two_lst (divI w9' hp3 (by exact q3 ‹_› ‹_›) (by exact na (by lia))) (modI w9' hp3 (by exact q3 ‹_› ‹_›))) rfl (sh_ii _ _)
   rw [← hrm]
   exact mulI w22 v24 b4
 refine ⟨.int r, .int (sgn k), .int (msg % p), join_some v24, w22, ?_, ?_⟩
 · (delta imulP; dsimp only); rw [if_pos hrb, hrm']
 obtain ⟨σ4, e4⟩ : ∃ σ4, σ4 = σ3.put 24 (.p (.int (msg % p))) := ⟨_, rfl⟩
 have l4 : σ4.vals.length = 50 := by rw [e4, put_len, l3]
 have d4 : ∀ j, j ≠ 24 → cV j σ4 = cV j σ3 := fun j h1 => by rw [e4]; exact cV_diff (Ne.symm h1)
 have u24 : cV 24 σ4 = some (.p (.int (msg % p))) := by rw [e4]; exact cV_same (by lia)
 have o4 : σ4.own = σ.own := by rw [e4, e3, e2, e1]; rfl
 have k4 : σ4.ky = σ.ky := by rw [e4, e3, e2, e1]; rfl
 rw [← e4]
 have g4 : ∀ j, j ≠ 3 → j ≠ 22 → j ≠ 23 → j ≠ 24 → cV j σ4 = cV j σ := fun j h1 h2 h3 h4 => (d4 j h4).trans ((d3 j h3 h4).trans ((d2 j h2).trans (d1 j h1)))
 have u3 : cV 3 σ4 = some (.p (.int (k : Int))) := (d4 3 (by decide)).trans ((d3 3 (by decide) (by decide)).trans ((d2 3 (by decide)).trans v1))
 have hp4 : cSub (cV 5) (cV 3) σ4 = some (.p (.int p)) := sub_int ((g4 5 (by decide) (by decide) (by decide) (by decide)).trans h5) u3 (by exact m3 ‹_› (by decide)) hwin
 have u20 : cV 20 σ4 = some (.p (.int am)) := (g4 20 (by decide) (by decide) (by decide) (by decide)).trans h20
 refine ⟨decide (k ∈ wrong), cB_of (in_own u3 ((g4 17 (by decide) (by decide) (by decide) (by decide)).trans h17) (by rw [o4]; exact ho)), ?_⟩
 by_cases hw : k ∈ wrong
 · rw [if_pos (decide_eq_true hw)]
   obtain ⟨x, hx⟩ : ∃ x, x = (msg % p + 1 + am % (p - 1)) % p := ⟨_, rfl⟩
   refine ⟨.p (.int x), ?_, ?_⟩
   · rw [hx]
     exact modI (addI (addI u24 (b := 1) rfl) (modI u20 (subI hp4 (b := 1) rfl) (by lia))) hp4 (by exact q3 ‹_› ‹_›)
   obtain ⟨σ5, e5⟩ : ∃ σ5, σ5 = σ4.put 24 (.p (.int x)) := ⟨_, rfl⟩
   have l5 : σ5.vals.length = 50 := by rw [e5, put_len, l4]
   have d5 : ∀ j, j ≠ 24 → cV j σ5 = cV j σ4 := fun j h1 => by rw [e5]; exact cV_diff (Ne.symm h1)
   rw [← e5]
   refine ⟨.int am, .int 60, .int (am / 60), join_some ((d5 20 (by decide)).trans u20), rfl, ?_, ?_⟩
   · (delta fdivP; dsimp only); rw [if_pos (by decide), Int.fdiv_eq_ediv_of_nonneg _ (by decide)]
   refine h (σ5.put 20 (.p (.int (am / 60)))) x (am / 60) ⟨by rw [put_len, l5, hlen], fun j hj => ?_, by rw [put_ky, e5, put_ky, k4]⟩ (by rw [put_own, e5, put_own, o4]) ?_ ?_ ?_ (by lia) ⟨?_, ?_, fun h => absurd hw h, fun zz => ?_⟩
   · simp only [List.mem_cons, List.not_mem_nil, or_false, not_or] at hj
     obtain ⟨h1, h2, h3, h4, h5⟩ := hj
     exact (cV_diff (Ne.symm h2)).trans ((d5 j h5).trans (g4 j h1 h3 h4 h5))
   · exact (cV_diff (by decide)).trans ((d5 3 (by decide)).trans u3)
   · refine (cV_diff (by decide)).trans ?_; rw [e5]; exact cV_same (by lia)
   · exact cV_same (by lia)
   · rw [hx]; exact Int.emod_nonneg _ (by lia)
   · rw [hx, ← hp]; exact Int.emod_lt_of_pos _ (by exact q3 ‹_› ‹_›)
   · rw [hx, ← hp]; exact wrong_share hpr.1 hr0 hr1 ha
 · rw [if_neg (by rw [decide_eq_false hw]; decide)]
   refine h σ4 (msg % p) am ⟨by rw [l4, hlen], fun j hj => ?_, k4⟩ o4 u3 u24 u20 ha ⟨hr0, by rw [← hp]; exact hr1, fun zz => by rw [← hp], fun h => absurd h hw⟩
   simp only [List.mem_cons, List.not_mem_nil, or_false, not_or] at hj
   obtain ⟨h1, h2, h3, h4, h5⟩ := hj
   exact g4 j h1 h3 h4 h5
noncomputable def Sm (x : Str) : Prop := ∀ c ∈ cl x, c ≤ 1000
theorem Sm.app {x y : Str} (h : Sm x) (h' : Sm y) : Sm (x ++ y) := fun c hc => by
 rw [cl_app] at hc
 rcases List.mem_append.mp hc with hc | hc
 · exact h c hc
 · exact h' c hc
theorem Sm.ok {x : Str} (h : Sm x) : PyData.strOk x = true := by
 unfold PyData.strOk
 rw [← Array.all_toList, List.all_eq_true]
 intro c hc
 have := h c hc
 exact decide_eq_true (by exact m1 ‹_› (by decide))
theorem In9.sm {m : Nat} {hs ds : List Nat} {n : Int} {I : Str} (H : In9 m hs ds n I) : Sm I := by
 intro c hc
 have hm := H.mm
 rw [H.ii] at hc
 simp only [List.mem_cons, List.mem_append, List.not_mem_nil, or_false] at hc
 rcases hc with rfl | hc | rfl | rfl | hc | rfl
 · lia
 · rcases H.hh with rfl | rfl
   · simp at hc
   · simp at hc; lia
 · lia
 · lia
 · have := H.d c hc; lia
 · lia
theorem sm_lits : Sm (Str.ofString "227 (") ∧ Sm (Str.ofString "229 ") ∧ Sm (Str.ofString "229 (") ∧ Sm (Str.ofString ")") ∧ Sm (Str.ofString "x)") ∧ Sm (Str.ofString "229 272)") ∧ Sm (Str.ofString "x") := by
 refine ⟨?_, ?_, ?_, ?_, ?_, ?_, ?_⟩ <;> unfold Sm
 · rw [c1]; decide
 · rw [c2]; decide
 · rw [c3]; decide
 · rw [c4]; decide
 · rw [c5]; decide
 · rw [c6]; decide
 · rw [c7]; decide
theorem sm_kind (r : Nat) : Sm (kindS r) := by
 unfold kindS
 split
 · unfold Sm; decide +kernel
 · split
   · unfold Sm; decide +kernel
   · unfold Sm; decide +kernel
theorem sm_peer : Sm (Str.ofString "peer") := by unfold Sm; decide +kernel
theorem oddAll_sm {m : Nat} {hs ds : List Nat} {n : Int} {I : Str} (H : In9 m hs ds n I) : ∀ x ∈ oddAll m I, Sm x := by
 refine wg fun P' bk => ?_
 obtain ⟨a1, a2, a3, a4, a5, a6, a7⟩ := sm_lits
 have hI := H.sm
 have hm : Sm ⟨#[m]⟩ := fun c hc => by
   have e : c = m := by simpa using hc
   have := H.mm; lia
 have hm3 : Sm (Txt.mul ⟨#[m]⟩ 3) := fun c hc => by
   have e : c = m := by rw [mul3] at hc; simpa using hc
   have := H.mm; lia
 refine bk ?_
 intro x hx
 simp only [oddAll, odds, odds2, List.mem_cons, List.mem_append, List.not_mem_nil, or_false] at hx
 rcases hx with (rfl | rfl | rfl | rfl | rfl) | rfl | rfl | rfl
 · exact (a1.app hI).app a4
 · exact (a2.app hI).app a4
 · exact a3.app hI
 · exact (a3.app hI).app a5
 · exact a6
 · exact ((a3.app hm).app hI).app a4
 · exact (a3.app hI).app hm
 · exact (((a3.app hm3).app a7).app hm).app a4
theorem sub_ownI {f g : St → Option V} {σ : St} {i k : Nat} {xs : List P} {r : P} (hf : f σ = some (.own i)) (hg : g σ = some (.p (.int (k : Int)))) (hx : σ.own[i]? = some xs) (hk : k ≤ 1000) (hr : xs[k]? = some r) : cSub f g σ = some (.p r) := by
 have hl : k < xs.length := (List.getElem?_eq_some_iff.mp hr).1
 refine cSub_of hf hg (by lia) ?_
 show (match seqOf σ (.own i) with | some xs => (seqIndex? (k : Int) xs.length).bind (xs[·]?) | none => none) = _
 rw [show seqOf σ (.own i) = some xs from hx]
 simp only [idx_pos hl, Option.bind_some, hr]
theorem turn_b {σ : St} {c : List Int} {s t k : Nat} {x : Int} {msg : Int} {lost wrong : List Nat} {R : SW} {Po : Post} (hlen : σ.vals.length = 50) (hcl : c.length = 6) (hs : s < 8) (hk : k < 7) (h4 : cV 4 σ = some (.p (.lst (c.map .int)))) (h5 : cV 5 σ = some (.p (.lst ((win s).map .int))))
   (h3 : cV 3 σ = some (.p (.int (k : Int)))) (h24 : cV 24 σ = some (.p (.int x))) (h11 : cV 11 σ = some (.own 1)) (ho : σ.own[1]? = some (nP lost)) (h21 : cV 21 σ = some (.p (.int (t : Int)))) (hG : Good s msg wrong k x)
   (h : ∀ (σ' : St) (od : List P), Same [25, 26, 27, 28, 29] σ σ' → σ'.own = σ.own ++ [od] → (k ∉ lost → cV 29 σ' = some (.p (.tup [.str (Str.ofString "peer"), .int (x * 64 + pI s k)]))) →
     (k ∈ lost → ∃ (r : Nat) (tx : Str), r < 8 ∧ Sm tx ∧ cV 28 σ' = some (.p (.int (r : Int))) ∧ cV 27 σ' = some (.own σ.own.length) ∧ od[r]? = some (.str tx) ∧ cV 29 σ' = some (.p (.lst [.str (kindS r), .str tx]))) → R σ' Po) :
   wSeq wt6 (wSeq wt7 (wSeq wt8 (wSeq wt9 (wSeq wt10 (wSeq wt11 R))))) σ Po := by
 obtain ⟨p, hp⟩ : ∃ p, p = pI s k := ⟨_, rfl⟩
 have hpr : 11 ≤ p ∧ p ≤ 61 := by rw [hp]; exact pI_range hs hk
 have hwin : (win s)[k]? = some p := by rw [hp]; exact win_get hs hk
 have hx0 := hG.x0
 have hx1 := hG.x1
 rw [← hp] at hx1 h
 obtain ⟨j, hj⟩ : ∃ j : Nat, j = ((c.getD 5 0 / 7 + (k : Int)) % 4).toNat := ⟨_, rfl⟩
 have hj4 : j < 4 := by lia
 have hji : (c.getD 5 0 / 7 + (k : Int)) % 4 = (j : Int) := by lia
 obtain ⟨m, hm⟩ : ∃ m, m = marks.getD j 0 := ⟨_, rfl⟩
 have hmm : m = 124 ∨ m = 33 ∨ m = 59 ∨ m = 126 := by rw [hm]; exact mark_mm hj4
 refine ⟨.p (.str ⟨#[m]⟩), ?_, ?_⟩
 · rw [hm]
   refine mark_of (f := cV 0) ?_ hj4
   rw [← hji]
   exact modI (addI (divI (cell_of h4 hcl (k := 5) (by decide)) (b := 7) rfl (by decide) (by decide)) h3) (b := 4) rfl (by decide)
 obtain ⟨σ1, e1⟩ : ∃ σ1, σ1 = σ.put 25 (.p (.str ⟨#[m]⟩)) := ⟨_, rfl⟩
 have l1 : σ1.vals.length = 50 := by rw [e1, put_len, hlen]
 have d1 : ∀ j, j ≠ 25 → cV j σ1 = cV j σ := fun j hj => by rw [e1]; exact cV_diff (Ne.symm hj)
 have v25 : cV 25 σ1 = some (.p (.str ⟨#[m]⟩)) := by rw [e1]; exact cV_same (by lia)
 rw [← e1]
 obtain ⟨n, hn⟩ : ∃ n, n = x * 64 + p := ⟨_, rfl⟩
 have hn0 : 0 ≤ n := by lia
 have hn1 : n < 10000 := by lia
 have H9 := txt_in9 (m := m) (k := k) hmm hn0 hn1
 have hIl := txI_len (k := k) hmm hn0 hn1
 obtain ⟨I, hI⟩ : ∃ I, I = txI m k n := ⟨_, rfl⟩
 rw [← hI] at H9 hIl
 refine ⟨.p (.str I), ?_, ?_⟩
 · rw [hI]
   refine text_of v25 ((d1 3 (by decide)).trans h3) ?_ hn0 hn1
   rw [hn]
   exact addI (mulI ((d1 24 (by decide)).trans h24) (b := 64) rfl (by exact na (by lia))) (sub_int ((d1 5 (by decide)).trans h5) ((d1 3 (by decide)).trans h3) (by exact m3 ‹_› (by decide)) hwin)
 obtain ⟨σ2, e2⟩ : ∃ σ2, σ2 = σ1.put 26 (.p (.str I)) := ⟨_, rfl⟩
 have l2 : σ2.vals.length = 50 := by rw [e2, put_len, l1]
 have d2 : ∀ j, j ≠ 26 → cV j σ2 = cV j σ1 := fun j hj => by rw [e2]; exact cV_diff (Ne.symm hj)
 have v26 : cV 26 σ2 = some (.p (.str I)) := by rw [e2]; exact cV_same (by lia)
 have o2 : σ2.own = σ.own := by rw [e2, e1]; rfl
 rw [← e2]
 refine ⟨(odds m I).map .str, odds_of v26 hIl, ?_⟩
 obtain ⟨σ3, e3⟩ : ∃ σ3, σ3 = (σ2.add ((odds m I).map .str)).put 27 (.own σ2.own.length) := ⟨_, rfl⟩
 have l3 : σ3.vals.length = 50 := by rw [e3, put_len, add_len, l2]
 have d3 : ∀ j, j ≠ 27 → cV j σ3 = cV j σ2 := fun j hj => by rw [e3]; exact (cV_diff (Ne.symm hj)).trans rfl
 have v27 : cV 27 σ3 = some (.own σ.own.length) := by rw [e3]; refine (cV_same (by rw [add_len, l2]; decide)).trans ?_; rw [o2]
 have o3 : σ3.own = σ.own ++ [(odds m I).map .str] := by rw [e3, put_own, add_own, o2]
 rw [← e3]
 refine ⟨σ.own.length, (odds m I).map .str, (odds2 m I).map .str, v27, odds2_of ((d3 25 (by decide)).trans ((d2 25 (by decide)).trans v25)) ((d3 26 (by decide)).trans v26) hIl, by rw [o3]; simp, by rw [List.length_map, List.length_map]; exact (by decide : 5 + 3 ≤ 1000), ?_⟩
 obtain ⟨σ4, e4⟩ : ∃ σ4, σ4 = σ3.set σ.own.length ((odds m I).map P.str ++ (odds2 m I).map P.str) := ⟨_, rfl⟩
 have l4 : σ4.vals.length = 50 := by rw [e4, set_len, l3]
 have d4 : ∀ j, cV j σ4 = cV j σ3 := fun j => by rw [e4]; rfl
 have o4 : σ4.own = σ.own ++ [(oddAll m I).map .str] := by
   rw [e4, set_own, o3, List.set_append_right _ _ (Nat.le_refl _), Nat.sub_self]
   unfold oddAll
   rw [List.map_append]; rfl
 rw [← e4]
 have g4 : ∀ j, j ≠ 25 → j ≠ 26 → j ≠ 27 → cV j σ4 = cV j σ := fun j h1 h2 h3 => (d4 j).trans ((d3 j h3).trans ((d2 j h2).trans (d1 j h1)))
 obtain ⟨r, hr⟩ : ∃ r : Nat, r = ((c.getD 5 0 / 28 + (t : Int)) % 8).toNat := ⟨_, rfl⟩
 have hr8 : r < 8 := by lia
 have hri : (c.getD 5 0 / 28 + (t : Int)) % 8 = (r : Int) := by lia
 refine ⟨.p (.int (r : Int)), ?_, ?_⟩
 · rw [← hri]
   exact modI (addI (divI (cell_of ((g4 4 (by decide) (by decide) (by decide)).trans h4) hcl (k := 5) (by decide)) (b := 28) rfl (by decide) (by decide)) ((g4 21 (by decide) (by decide) (by decide)).trans h21)) (b := 8) rfl (by decide)
 obtain ⟨σ5, e5⟩ : ∃ σ5, σ5 = σ4.put 28 (.p (.int (r : Int))) := ⟨_, rfl⟩
 have l5 : σ5.vals.length = 50 := by rw [e5, put_len, l4]
 have d5 : ∀ j, j ≠ 28 → cV j σ5 = cV j σ4 := fun j hj => by rw [e5]; exact cV_diff (Ne.symm hj)
 have v28 : cV 28 σ5 = some (.p (.int (r : Int))) := by rw [e5]; exact cV_same (by lia)
 have o5 : σ5.own = σ.own ++ [(oddAll m I).map .str] := by rw [e5, put_own, o4]
 have w27 : cV 27 σ5 = some (.own σ.own.length) := (d5 27 (by decide)).trans ((d4 27).trans v27)
 have w26 : cV 26 σ5 = some (.p (.str I)) := (d5 26 (by decide)).trans ((d4 26).trans ((d3 26 (by decide)).trans v26))
 rw [← e5]
 have g5 : ∀ j, j ≠ 25 → j ≠ 26 → j ≠ 27 → j ≠ 28 → cV j σ5 = cV j σ := fun j h1 h2 h3 h4 => (d5 j h4).trans (g4 j h1 h2 h3)
 have hin : (cB (cIn (cV 3) (cV 11))) σ5 = some (decide (k ∈ lost)) := cB_of (in_own ((g5 3 (by decide) (by decide) (by decide) (by decide)).trans h3) ((g5 11 (by decide) (by decide) (by decide) (by decide)).trans h11) (by
   have hl1 : 1 < σ.own.length := (List.getElem?_eq_some_iff.mp ho).1
   rw [o5, List.getElem?_append_left hl1]; exact ho))
 have hSame : ∀ v, Same [25, 26, 27, 28, 29] σ (σ5.put 29 v) := fun v => ⟨by rw [put_len, l5, hlen], fun j hj => by
   simp only [List.mem_cons, List.not_mem_nil, or_false, not_or] at hj
   obtain ⟨h1, h2, h3, h4, h5⟩ := hj
   exact (cV_diff (Ne.symm h5)).trans (g5 j h1 h2 h3 h4), by rw [put_ky, e5, put_ky, e4, set_ky, e3, put_ky, add_ky, e2, put_ky, e1, put_ky]⟩
 by_cases hlo : k ∈ lost
 · obtain ⟨tx, htx, hport⟩ := odd_port H9 hr8
   have hg : ((oddAll m I).map P.str)[r]? = some (.str tx) := by rw [List.getElem?_map, htx]; rfl
   refine ⟨tx, .lst [.str (kindS r), .str tx], cIf_t (by rw [hin, decide_eq_true hlo]) (sub_ownI w27 v28 (by rw [o5]; simp) (by exact m3 ‹_› (by decide)) hg), hport, ?_⟩
   refine h _ ((oddAll m I).map .str) (hSame _) (by rw [put_own, o5]) (fun hc => absurd hlo hc) fun zz => ⟨r, tx, hr8, oddAll_sm H9 tx (List.mem_of_getElem? htx), (cV_diff (by decide)).trans v28, (cV_diff (by decide)).trans w27, hg, cV_same (by lia)⟩
 · refine ⟨_, .tup [.str (Str.ofString "peer"), .int n], cIf_f (by rw [hin, decide_eq_false hlo]) (good_of w26 hIl), H9.good, ?_⟩
   refine h _ ((oddAll m I).map .str) (hSame _) (by rw [put_own, o5]) (fun zz => ?_) fun hc => absurd hc hlo
   rw [← hn]
   exact cV_same (by lia)
theorem sh_ti {x : Str} {b : Int} (h : Sm x) : PySem.SeqAt.shaped (.tuple [.str x, .int b]) = true := by
 simp [PySem.SeqAt.shaped, PyData.canLay0, PyData.canLayAll0, PyData.depth, PyData.depthAll, h.ok]
theorem sh_ss {x y : Str} (h : Sm x) (h' : Sm y) : PySem.SeqAt.shaped (.list [.str x, .str y]) = true := by
 simp [PySem.SeqAt.shaped, PyData.canLay0, PyData.canLayAll0, PyData.depth, PyData.depthAll, h.ok, h'.ok]
noncomputable def insQ (rq : List (Int × Int)) (q : Int × Int) : List (Int × Int) := rq.take (cnt (rq.map (·.2)) q.2) ++ q :: rq.drop (cnt (rq.map (·.2)) q.2)
theorem key_rows (rq : List (Int × Int)) : keysOf (lamK (cSub (cV 0) (cK (.int 1))) []) (rq.map rowL) = some (rq.map (·.2)) :=
 keysOf_map (h := rowL) (k := (·.2)) fun q zz => lamK_of (cSub_of (v := .p (rowL q)) (k := 1) rfl rfl (by decide) rfl) rfl
theorem pw_le {l : List Int} (h : l.Pairwise (· < ·)) : l.Pairwise (· ≤ ·) := h.imp fun h => Int.le_of_lt h
theorem kind_of {σ : St} {r : Nat} (h28 : cV 28 σ = some (.p (.int (r : Int)))) : (cIf (cB (lift2 eqP (cV 28) (cK (.int 0)))) (cK (.str (Str.ofString "reply"))) (cIf (cB (lift2 eqP (cV 28) (cK (.int 7)))) (cK (.str (Str.ofString "number"))) (cK (.str (Str.ofString "proto"))))) σ = some (.p (.str (kindS r))) := by
 have he : ∀ b : Int, cB (lift2 eqP (cV 28) (cK (.int b))) σ = some ((r : Int) == b) := fun b => cB_of (lift2_of h28 (b := .int b) rfl rfl)
 unfold kindS
 by_cases h0 : r = 0
 · subst h0; exact cIf_t (he 0) rfl
 · rw [if_neg h0]
   refine cIf_f (by rw [he 0]; congr 1; simp; assumption) ?_
   by_cases h7 : r = 7
   · subst h7; exact cIf_t (he 7) rfl
   · rw [if_neg h7]
     exact cIf_f (by rw [he 7]; congr 1; simp; lia) rfl
theorem turn_c {σ : St} {s k : Nat} {x : Int} {lost : List Nat} {dq rq : List (Int × Int)} {R : SW} {Po : Post} (hlen : σ.vals.length = 50) (hs : s < 8) (hk : k < 7) (h5 : cV 5 σ = some (.p (.lst ((win s).map .int))))
   (h3 : cV 3 σ = some (.p (.int (k : Int)))) (h24 : cV 24 σ = some (.p (.int x))) (h11 : cV 11 σ = some (.own 1)) (ho : σ.own[1]? = some (nP lost)) (h18 : cV 18 σ = some (.own 4)) (h19 : cV 19 σ = some (.own 5)) (ho4 : σ.own[4]? = some (dq.map rowL)) (ho5 : σ.own[5]? = some (rq.map rowL))
   (hx0 : 0 ≤ x) (hx1 : x < 64) (hrq : (rq.map (·.2)).Pairwise (· < ·)) (hrl : rq.length ≤ 7) (hdl : dq.length ≤ 7)
   (hg : k ∉ lost → cV 29 σ = some (.p (.tup [.str (Str.ofString "peer"), .int (x * 64 + pI s k)])))
   (hb : k ∈ lost → ∃ (r : Nat) (tx : Str) (L : Nat) (od : List P), r < 8 ∧ Sm tx ∧ cV 28 σ = some (.p (.int (r : Int))) ∧ cV 27 σ = some (.own L) ∧ σ.own[L]? = some od ∧ od[r]? = some (.str tx) ∧ cV 29 σ = some (.p (.lst [.str (kindS r), .str tx])))
   (h1 : k ∈ lost → R σ Po) (h2 : k ∉ lost → ∀ σ', Same [7, 30] σ σ' → σ'.own = (σ.own.set 5 ((insQ rq (x, pI s k)).map rowL)).set 4 ((dq ++ [(x, pI s k)]).map rowL) → R σ' Po) :
   wSeq wt12 R σ Po := by
 obtain ⟨p, hp⟩ : ∃ p, p = pI s k := ⟨_, rfl⟩
 have hpr : 11 ≤ p ∧ p ≤ 61 := by rw [hp]; exact pI_range hs hk
 have hwin : (win s)[k]? = some p := by rw [hp]; exact win_get hs hk
 rw [← hp] at hg h2
 refine ⟨decide (k ∈ lost), cB_of (in_own h3 h11 ho), ?_⟩
 by_cases hlo : k ∈ lost
 · rw [if_pos (decide_eq_true hlo)]
   obtain ⟨r, tx, L, od, hr8, hsm, h28, h27, hoL, hod, h29⟩ := hb hlo
   refine ⟨false, ?_, ?_⟩
   · exact ne_self (v := .p (.lst [.str (kindS r), .str tx])) (d := .list [.str (kindS r), .str tx]) h29 (two_lst (kind_of h28) (sub_ownI h27 h28 hoL (by exact m3 ‹_› (by decide)) hod)) rfl (sh_ss (sm_kind r) hsm)
   · exact h1 hlo
 · rw [if_neg (by rw [decide_eq_false hlo]; decide)]
   have h29 := hg hlo
   have hn0 : 0 ≤ x * 64 + p := by lia
   have h291 : cSub (cV 29) (cK (.int 1)) σ = some (.p (.int (x * 64 + p))) := sub_tup1 h29
   have hp1 : cSub (cV 5) (cV 3) σ = some (.p (.int p)) := sub_int h5 h3 (by exact m3 ‹_› (by decide)) hwin
   refine ⟨false, ?_, ?_⟩
   · have c1 : (cB (lift2V neD (cV 29) (cTup (cCons (cK (.str (Str.ofString "peer"))) (cCons (lift2 addP (lift2 mulP (cV 24) (cK (.int 64))) (cSub (cV 5) (cV 3))) cNil))))) σ = some false :=
       ne_self (v := .p (.tup [.str (Str.ofString "peer"), .int (x * 64 + p)])) (d := .tuple [.str (Str.ofString "peer"), .int (x * 64 + p)]) h29 (two_tup rfl (addI (mulI h24 (b := 64) rfl (by exact na (by lia))) hp1)) rfl (sh_ti sm_peer)
     have c2 : (cNot (cTr (cApp isIntA (cCons (cSub (cV 29) (cK (.int 1))) (cCons (cK (.raw (.type "int"))) cNil))))) σ = some false := by
       have e : cApp isIntA (cCons (cSub (cV 29) (cK (.int 1))) (cCons (cK (.raw (.type "int"))) cNil)) σ = some (.p (.bool true)) := cApp_of (vs := [.p (.int (x * 64 + p)), .p (.raw (.type "int"))]) (cCons_of h291 (cCons_of rfl rfl)) rfl
       dsimp only [cNot, cTr]
       rw [e]; rfl
     dsimp only [cOr]
     rw [c1]
     show (match cNot _ σ with | some false => cKB false σ | r => r) = _
     rw [c2]; rfl
   refine ⟨.p (.tup [.int x, .int p]), [.int x, .int p], (σ.put 30 (.p (.int x))).put 7 (.p (.int p)), ?_, rfl, rfl, ?_⟩
   · have := callD (f := cSub (cV 29) (cK (.int 1))) (g := cK (.int 64)) (σ := σ) (a := x * 64 + p) (b := 64) h291 rfl (by exact na (by lia)) (by decide) (by decide)
     rw [this]
     dsimp only [qD, rD]
     rw [if_pos (by decide), if_pos (by decide), show (x * 64 + p) / 64 = x by lia, show (x * 64 + p) % 64 = p by lia]
   obtain ⟨σ1, e1⟩ : ∃ σ1, σ1 = (σ.put 30 (.p (.int x))).put 7 (.p (.int p)) := ⟨_, rfl⟩
   have l1 : σ1.vals.length = 50 := by rw [e1, put_len, put_len, hlen]
   have d1 : ∀ j, j ≠ 7 → j ≠ 30 → cV j σ1 = cV j σ := fun j h1 h2 => by rw [e1]; exact (cV_diff (Ne.symm h1)).trans (cV_diff (Ne.symm h2))
   have v30 : cV 30 σ1 = some (.p (.int x)) := by rw [e1]; exact (cV_diff (by decide)).trans (cV_same (by lia))
   have v7 : cV 7 σ1 = some (.p (.int p)) := by rw [e1]; exact cV_same (by rw [put_len, hlen]; decide)
   have o1 : σ1.own = σ.own := by rw [e1]; rfl
   rw [← e1]
   refine wInsort_of (rm := 17) (rl := 0) (j := 5) (xs := rq.map rowL) (ks := rq.map (·.2)) (d := rowL (x, p)) (k := p) (by decide) (by decide) ?_ (by rw [o1]; exact ho5) (key_rows rq) (pw_le hrq) (by rw [List.length_map]; exact n9 ‹_› (by decide)) ?_ ?_
   · exact cCons_of ((d1 19 (by decide) (by decide)).trans h19) (cCons_of (two_lst v30 v7) rfl)
   · exact lamK_of (cSub_of (v := .p (rowL (x, p))) (k := 1) rfl rfl (by decide) rfl) rfl
   obtain ⟨σ2, e2⟩ : ∃ σ2, σ2 = σ1.set 5 ((rq.map rowL).take (cnt (rq.map (·.2)) p) ++ rowL (x, p) :: (rq.map rowL).drop (cnt (rq.map (·.2)) p)) := ⟨_, rfl⟩
   have hins : (rq.map rowL).take (cnt (rq.map (·.2)) p) ++ rowL (x, p) :: (rq.map rowL).drop (cnt (rq.map (·.2)) p) = (insQ rq (x, p)).map rowL := by
     (delta insQ; dsimp only)
     rw [List.map_append, List.map_cons, List.map_take, List.map_drop]
   rw [hins] at e2 ⊢
   rw [← e2]
   have d2 : ∀ j, cV j σ2 = cV j σ1 := fun j => by rw [e2]; rfl
   have o2 : σ2.own = σ.own.set 5 ((insQ rq (x, p)).map rowL) := by rw [e2, set_own, o1]
   have hp2 : cSub (cV 5) (cV 3) σ2 = some (.p (.int p)) := sub_int ((d2 5).trans ((d1 5 (by decide) (by decide)).trans h5)) ((d2 3).trans ((d1 3 (by decide) (by decide)).trans h3)) (by exact m3 ‹_› (by decide)) hwin
   refine ⟨4, dq.map rowL, rowL (x, p), σ2, (d2 18).trans ((d1 18 (by decide) (by decide)).trans h18), ?_, ?_, by rw [List.length_map]; exact n9 ‹_› (by decide), ?_⟩
   · have := two_lst (f := cV 24) (g := cSub (cV 5) (cV 3)) (σ := σ2) ((d2 24).trans ((d1 24 (by decide) (by decide)).trans h24)) hp2
     show (cLst _ σ2).map _ = _
     rw [this]; rfl
   · rw [o2, List.getElem?_set_ne (by decide)]; exact ho4
   · refine h2 hlo _ ⟨?_, fun j hj => ?_, ?_⟩ ?_
     · rw [set_len, e2, set_len, l1, hlen]
     · simp only [List.mem_cons, List.not_mem_nil, or_false, not_or] at hj
       exact (d2 j).trans (d1 j hj.1 hj.2)
     · rw [set_ky, e2, set_ky, e1, put_ky, put_ky]
     · rw [set_own, o2, List.map_append]; rfl
noncomputable def kt (c : List Int) (lost : List Nat) (t : Nat) : List Nat := ((List.range t).map (kOf c)).filter fun k => decide (k ∉ lost)
theorem kt_succ {c : List Int} {lost : List Nat} {t : Nat} : kt c lost (t + 1) = kt c lost t ++ (if kOf c t ∈ lost then [] else [kOf c t]) := by
 unfold kt
 rw [List.range_succ, List.map_append, List.filter_append]
 congr 1
 by_cases h : kOf c t ∈ lost
 · rw [if_pos h]; simp [h]
 · rw [if_neg h]; simp [h]
theorem kOf_inj {c : List Int} {i t : Nat} (h : i < t) (ht : t < 7) : kOf c i ≠ kOf c t := by unfold kOf; lia
theorem kt_fresh {c : List Int} {lost : List Nat} {t : Nat} (ht : t < 7) : kOf c t ∉ kt c lost t := fun h => by
 obtain ⟨i, hi, e⟩ := List.mem_map.mp (List.mem_filter.mp h).1
 exact kOf_inj (List.mem_range.mp hi) ht e
theorem kt_lt {c : List Int} {lost : List Nat} {t : Nat} : ∀ k ∈ kt c lost t, k < 7 := fun k h => by
 obtain ⟨i, hi, e⟩ := List.mem_map.mp (List.mem_filter.mp h).1
 rw [← e]; exact kOf_lt
theorem kt_len {c : List Int} {lost : List Nat} {t : Nat} : (kt c lost t).length ≤ t := by
 unfold kt
 exact Nat.le_trans (List.length_filter_le _ _) (by simp)
theorem pI_mono : ∀ s < 8, ∀ i < 7, ∀ j < 7, i < j → pI s i < pI s j := by decide +kernel
theorem pI_inj {s i j : Nat} (hs : s < 8) (hi : i < 7) (hj : j < 7) (h : pI s i = pI s j) : i = j := by
 rcases Nat.lt_trichotomy i j with h1 | h1 | h1
 · have := pI_mono s hs i hi j hj h1; lia
 · exact h1
 · have := pI_mono s hs j hj i hi h1; lia
theorem insQ_perm (rq : List (Int × Int)) (q : Int × Int) : (insQ rq q).Perm (q :: rq) := by
 unfold insQ
 refine List.perm_middle.trans ?_
 rw [List.take_append_drop]
theorem ins_sorted {l : List Int} {x : Int} (h : l.Pairwise (· < ·)) (hx : x ∉ l) : (l.take (cnt l x) ++ x :: l.drop (cnt l x)).Pairwise (· < ·) := by
 have hle := pw_le h
 have h1 : ∀ y ∈ l.take (cnt l x), y < x := fun y hy => by
   obtain ⟨i, hi⟩ := List.getElem?_of_mem hy
   have hi' := hi
   rw [List.getElem?_take] at hi'
   split at hi'
   · rename_i hlt
     have := (cnt_iff (x := x) hle hi').mpr hlt
     have hne : y ≠ x := fun e => hx (e ▸ List.mem_of_getElem? hi')
     lia
   · cases hi'
 have h2 : ∀ y ∈ l.drop (cnt l x), x < y := fun y hy => by
   obtain ⟨i, hi⟩ := List.getElem?_of_mem hy
   rw [List.getElem?_drop] at hi
   have := (cnt_iff (x := x) hle hi)
   have : ¬ y ≤ x := fun h => by have := this.mp h; lia
   lia
 rw [List.pairwise_append]
 refine ⟨h.sublist (List.take_sublist _ _), ?_, fun a ha b hb => ?_⟩
 · rw [List.pairwise_cons]
   exact ⟨h2, h.sublist (List.drop_sublist _ _)⟩
 · rcases List.mem_cons.mp hb with rfl | hb
   · exact h1 a ha
   · have := h1 a ha; have := h2 b hb; lia
theorem insQ_map (rq : List (Int × Int)) (q : Int × Int) : (insQ rq q).map (·.2) = (rq.map (·.2)).take (cnt (rq.map (·.2)) q.2) ++ q.2 :: (rq.map (·.2)).drop (cnt (rq.map (·.2)) q.2) := by
 unfold insQ
 rw [List.map_append, List.map_cons, List.map_take, List.map_drop]
structure Z (c : List Int) (s : Nat) (msg : Int) (came lost right wrong : List Nat) : Prop where
 cl : c.length = 6
 sl : s < 8
 m1 : -(bnd s - 1) ≤ msg
 m2 : msg ≤ bnd s - 1
 p : Parts came lost
 h3 : 3 ≤ came.length
 q : (right ++ wrong).Perm came
 w : wrong.length ≤ brn s came
structure A5 (σ : St) (c : List Int) (s : Nat) (msg : Int) (came lost right wrong : List Nat) (t : Nat) (am : Int) (dq rq : List (Int × Int)) (od : List (List P)) : Prop where
 len : σ.vals.length = 50
 ky : σ.ky = Ky.no
 own : σ.own = [nP came, nP lost, nP right, nP wrong, dq.map rowL, rq.map rowL] ++ od
 c4 : cV 4 σ = some (.p (.lst (c.map .int)))
 c5 : cV 5 σ = some (.p (.lst ((win s).map .int)))
 c8 : cV 8 σ = some (.p (.int (bnd s)))
 c9 : cV 9 σ = some (.p (.int msg))
 c11 : cV 11 σ = some (.own 1)
 c15 : cV 15 σ = some (.p (.int (brn s came : Int)))
 c17 : cV 17 σ = some (.own 3)
 c18 : cV 18 σ = some (.own 4)
 c19 : cV 19 σ = some (.own 5)
 c20 : cV 20 σ = some (.p (.int am))
 a0 : 0 ≤ am
 pm : rq.Perm dq
 so : (rq.map (·.2)).Pairwise (· < ·)
 dk : dq.map (·.2) = (kt c lost t).map (pI s)
 gd : ∀ q ∈ dq, ∃ k, k < 7 ∧ q.2 = pI s k ∧ Good s msg wrong k q.1
theorem turns {c : List Int} {s : Nat} {msg : Int} {came lost right wrong : List Nat} {Po : Post} (z : Z c s msg came lost right wrong) : ∀ (n t : Nat) (σ : St) (am : Int) (dq rq : List (Int × Int)) (od : List (List P)), t + n = 7 → A5 σ c s msg came lost right wrong t am dq rq od →
   (∀ σ' am' dq' rq' od', A5 σ' c s msg came lost right wrong 7 am' dq' rq' od' → Po .next σ') →
   wTurns (fun zz => True) (fun σ v => some (σ.put 21 v)) (wSeq wt0 (wSeq wt1 (wSeq wt2 (wSeq wt3 (wSeq wt4 (wSeq wt5 (wSeq wt6 (wSeq wt7 (wSeq wt8 (wSeq wt9 (wSeq wt10 (wSeq wt11 (wSeq wt12 wNil))))))))))))) (rangeP (t : Int) n) σ Po
 | 0, t, σ, am, dq, rq, od, hn, A, h => by
   have : t = 7 := by assumption
   subst this
   exact h σ am dq rq od A
 | n + 1, t, σ, am, dq, rq, od, hn, A, h => by
   have hs := z.sl
   have hbf := bnd_facts s hs
   have hm1 := z.m1
   have hm2 := z.m2
   have hlen := A.len
   have hdl : dq.length ≤ t := by
     have := congrArg List.length A.dk
     rw [List.length_map, List.length_map] at this
     have := kt_len (c := c) (lost := lost) (t := t); lia
   have hrl : rq.length ≤ t := by have := A.pm.length_eq; lia
   obtain ⟨σ0, e0⟩ : ∃ σ0, σ0 = σ.put 21 (.p (.int (t : Int))) := ⟨_, rfl⟩
   have l0 : σ0.vals.length = 50 := by rw [e0, put_len, hlen]
   have d0 : ∀ j, j ≠ 21 → cV j σ0 = cV j σ := fun j hj => by rw [e0]; exact cV_diff (Ne.symm hj)
   have v21 : cV 21 σ0 = some (.p (.int (t : Int))) := by rw [e0]; exact cV_same (by lia)
   have o0 : σ0.own = σ.own := by rw [e0]; rfl
   have k0 : σ0.ky = Ky.no := by rw [e0]; exact A.ky
   refine ⟨σ0, by rw [e0], ?_⟩
   refine turn_a (t := t) (wrong := wrong) l0 z.cl hs ((d0 4 (by decide)).trans A.c4) ((d0 5 (by decide)).trans A.c5) ((d0 9 (by decide)).trans A.c9) ((d0 17 (by decide)).trans A.c17) (by rw [o0, A.own]; rfl) ((d0 20 (by decide)).trans A.c20) A.a0 v21 (by lia) fun σ1 x am' S1 o1 v3 v24 v20 ha' hG => ?_
   obtain ⟨k, hk⟩ : ∃ k, k = kOf c t := ⟨_, rfl⟩
   have hk7 : k < 7 := by rw [hk]; exact kOf_lt
   rw [← hk] at hG v3
   have l1 : σ1.vals.length = 50 := S1.len.trans l0
   have hx0 := hG.x0
   have hx1 := hG.x1
   have hpr := pI_range hs hk7
   have o1' : σ1.own = [nP came, nP lost, nP right, nP wrong, dq.map rowL, rq.map rowL] ++ od := by rw [o1, o0, A.own]
   refine turn_b (t := t) (lost := lost) l1 z.cl hs hk7 ((S1.v 4 (by decide)).trans ((d0 4 (by decide)).trans A.c4)) ((S1.v 5 (by decide)).trans ((d0 5 (by decide)).trans A.c5)) v3 v24 ((S1.v 11 (by decide)).trans ((d0 11 (by decide)).trans A.c11)) (by rw [o1']; rfl) ((S1.v 21 (by decide)).trans v21) hG fun σ2 odd S2 o2 hgood hbad => ?_
   have l2 : σ2.vals.length = 50 := S2.len.trans l1
   have o2' : σ2.own = [nP came, nP lost, nP right, nP wrong, dq.map rowL, rq.map rowL] ++ (od ++ [odd]) := by rw [o2, o1', List.append_assoc]
   have g2 : ∀ j, j ∉ [3, 20, 22, 23, 24] → j ∉ [25, 26, 27, 28, 29] → j ≠ 21 → cV j σ2 = cV j σ := fun j h1 h2 h3 => (S2.v j h2).trans ((S1.v j h1).trans (d0 j h3))
   have w20 : cV 20 σ2 = some (.p (.int am')) := (S2.v 20 (by decide)).trans v20
   have k2 : σ2.ky = Ky.no := S2.ky.trans (S1.ky.trans k0)
   refine turn_c (k := k) (lost := lost) (dq := dq) (rq := rq) l2 hs hk7 ((g2 5 (by decide) (by decide) (by decide)).trans A.c5) ((S2.v 3 (by decide)).trans v3) ((S2.v 24 (by decide)).trans v24) ((g2 11 (by decide) (by decide) (by decide)).trans A.c11) (by rw [o2']; rfl) ((g2 18 (by decide) (by decide) (by decide)).trans A.c18) ((g2 19 (by decide) (by decide) (by decide)).trans A.c19) (by rw [o2']; rfl) (by rw [o2']; rfl) hx0 (by lia) A.so (by lia) (by lia) hgood (fun hl => ?_) (fun hl => ?_) fun hl σ3 S3 o3 => ?_
   · obtain ⟨r, tx, b1, b2, b3, b4, b5, b6⟩ := hbad hl
     exact ⟨r, tx, σ1.own.length, odd, b1, b2, b3, b4, by rw [o2]; simp, b5, b6⟩
   · refine ⟨trivial, turns z n (t + 1) σ2 am' dq rq (od ++ [odd]) (by lia) ⟨l2, k2, o2', (g2 4 (by decide) (by decide) (by decide)).trans A.c4, (g2 5 (by decide) (by decide) (by decide)).trans A.c5, (g2 8 (by decide) (by decide) (by decide)).trans A.c8, (g2 9 (by decide) (by decide) (by decide)).trans A.c9, (g2 11 (by decide) (by decide) (by decide)).trans A.c11, (g2 15 (by decide) (by decide) (by decide)).trans A.c15, (g2 17 (by decide) (by decide) (by decide)).trans A.c17, (g2 18 (by decide) (by decide) (by decide)).trans A.c18, (g2 19 (by decide) (by decide) (by decide)).trans A.c19, w20, ha', A.pm, A.so, ?_, A.gd⟩ h⟩
     rw [kt_succ, ← hk, if_pos hl, List.append_nil]; exact A.dk
   · have g3 : ∀ j, j ∉ [3, 20, 22, 23, 24] → j ∉ [25, 26, 27, 28, 29] → j ≠ 21 → j ∉ [7, 30] → cV j σ3 = cV j σ := fun j h1 h2 h3 h4 => (S3.v j h4).trans (g2 j h1 h2 h3)
     have hfr : pI s k ∉ rq.map (·.2) := fun hmem => by
       have hm' : pI s k ∈ dq.map (·.2) := (A.pm.map _).mem_iff.mp hmem
       rw [A.dk] at hm'
       obtain ⟨i, hi, e⟩ := List.mem_map.mp hm'
       have := pI_inj hs (kt_lt i hi) hk7 e
       rw [this, hk] at hi
       exact kt_fresh (by lia) hi
     refine ⟨trivial, turns z n (t + 1) σ3 am' (dq ++ [(x, pI s k)]) (insQ rq (x, pI s k)) (od ++ [odd]) (by lia) ⟨S3.len.trans l2, S3.ky.trans k2, by rw [o3, o2']; rfl, (g3 4 (by decide) (by decide) (by decide) (by decide)).trans A.c4, (g3 5 (by decide) (by decide) (by decide) (by decide)).trans A.c5, (g3 8 (by decide) (by decide) (by decide) (by decide)).trans A.c8, (g3 9 (by decide) (by decide) (by decide) (by decide)).trans A.c9, (g3 11 (by decide) (by decide) (by decide) (by decide)).trans A.c11, (g3 15 (by decide) (by decide) (by decide) (by decide)).trans A.c15, (g3 17 (by decide) (by decide) (by decide) (by decide)).trans A.c17, (g3 18 (by decide) (by decide) (by decide) (by decide)).trans A.c18, (g3 19 (by decide) (by decide) (by decide) (by decide)).trans A.c19, (S3.v 20 (by decide)).trans w20, ha', ?_, ?_, ?_, ?_⟩ h⟩
     · exact (insQ_perm _ _).trans ((A.pm.cons _).trans (List.perm_append_singleton _ _).symm)
     · rw [insQ_map]; exact ins_sorted A.so hfr
     · rw [kt_succ, ← hk, if_neg hl, List.map_append, List.map_append, A.dk]; rfl
     · intro q hq
       rcases List.mem_append.mp hq with hq | hq
       · exact A.gd q hq
       · rw [List.mem_singleton.mp hq]; exact ⟨k, hk7, rfl, hG⟩
theorem kOf_perm (c : List Int) : ((List.range 7).map (kOf c)).Perm (List.range 7) := by
 have h : ∀ u < 7, ((List.range 7).map fun t => (t + u) % 7).Perm (List.range 7) := by decide +kernel
 exact h (c.getD 5 0 % 7).toNat (by lia)
theorem Parts.mem {came lost : List Nat} (x : Parts came lost) {k : Nat} (hk : k < 7) : k ∈ came ↔ k ∉ lost := by
 have nd : (came ++ lost).Nodup := x.p.nodup_iff.mpr List.nodup_range
 have hm : k ∈ came ++ lost := x.p.mem_iff.mpr (List.mem_range.mpr hk)
 rw [List.nodup_append] at nd
 constructor
 · intro h1 h2; exact nd.2.2 k h1 k h2 rfl
 · intro h
   rcases List.mem_append.mp hm with h1 | h1
   · exact h1
   · exact absurd h1 h
theorem kt_mem {c : List Int} {came lost : List Nat} (x : Parts came lost) (k : Nat) : k ∈ kt c lost 7 ↔ k ∈ came := by
 unfold kt
 rw [List.mem_filter, (kOf_perm c).mem_iff, List.mem_range]
 constructor
 · rintro ⟨h1, h2⟩; exact (x.mem h1).mpr (of_decide_eq_true h2)
 · intro h; have h7 := x.lt.1 k h; exact ⟨h7, decide_eq_true ((x.mem h7).mp h)⟩
theorem pw_pI {s : Nat} {came : List Nat} (hs : s < 8) (ho : came.Pairwise (· < ·)) (h7 : ∀ k ∈ came, k < 7) : (came.map (pI s)).Pairwise (· < ·) := by
 rw [List.pairwise_map]
 exact ho.imp_of_mem fun {a b} ha hb h => pI_mono s hs a (h7 a ha) b (h7 b hb) h
theorem eq_of_memI {a b : List Int} (ha : a.Pairwise (· < ·)) (hb : b.Pairwise (· < ·)) (h : ∀ x, x ∈ a ↔ x ∈ b) : a = b := by
 refine List.Perm.eq_of_pairwise (le := fun x y : Int => x < y) (fun x y zz zz h1 h2 => absurd h1 (by lia)) ha hb ?_
 exact (List.perm_ext_iff_of_nodup (ha.imp fun h => Int.ne_of_lt h) (hb.imp fun h => Int.ne_of_lt h)).mpr h
theorem A5.keys {σ : St} {c : List Int} {s : Nat} {msg : Int} {came lost right wrong : List Nat} {am : Int} {dq rq : List (Int × Int)} {od : List (List P)} (A : A5 σ c s msg came lost right wrong 7 am dq rq od) (z : Z c s msg came lost right wrong) : rq.map (·.2) = came.map (pI s) := by
 refine eq_of_memI A.so (pw_pI z.sl z.p.o z.p.lt.1) fun x => ?_
 rw [(A.pm.map (·.2)).mem_iff, A.dk, List.mem_map, List.mem_map]
 constructor
 · rintro ⟨k, hk, e⟩; exact ⟨k, (kt_mem z.p k).mp hk, e⟩
 · rintro ⟨k, hk, e⟩; exact ⟨k, (kt_mem z.p k).mpr hk, e⟩
theorem zip_pm {rq dq : List (Int × Int)} (h : rq.Perm dq) : (rq.map fun q => (q.2, rowL q)).Perm ((dq.map (·.2)).zip (dq.map rowL)) := by
 have e : ∀ l : List (Int × Int), (l.map (·.2)).zip (l.map rowL) = l.map fun q => (q.2, rowL q) := fun l => by
   induction l with
   | nil => rfl
   | cons a l ih => show (a.2, rowL a) :: (l.map (·.2)).zip (l.map rowL) = _; rw [ih]; rfl
 rw [e]
 exact h.map _
theorem sort_rows {rq dq : List (Int × Int)} (h : rq.Perm dq) (so : (rq.map (·.2)).Pairwise (· < ·)) : sortP (dq.map (·.2)) (dq.map rowL) = rq.map rowL := by
 have nd' : (rq.map fun q => q.2).Nodup := so.imp fun h => Int.ne_of_lt h
 have hp' : (rq.map fun q => q.2).Perm (dq.map fun q => q.2) := h.map _
 have nd : (dq.map (·.2)).Nodup := hp'.nodup_iff.mp nd'
 have hm := List.mergeSort_perm ((dq.map (·.2)).zip (dq.map rowL)) (fun p q => decide (p.1 ≤ q.1))
 have hs : (((dq.map (·.2)).zip (dq.map rowL)).mergeSort (fun p q => decide (p.1 ≤ q.1))).Pairwise fun a b => a.1 ≤ b.1 := by
   have := List.pairwise_mergeSort (le := fun (p q : Int × P) => decide (p.1 ≤ q.1)) (fun a b c h1 h2 => by
     have := of_decide_eq_true h1; have := of_decide_eq_true h2; exact decide_eq_true (by exact q4 ‹_› ‹_›)) (fun a b => by
     rcases Int.le_total a.1 b.1 with h | h
     · rw [decide_eq_true h]; rfl
     · rw [decide_eq_true h, Bool.or_true]) ((dq.map (·.2)).zip (dq.map rowL))
   exact this.imp fun h => of_decide_eq_true h
 have h2 : (rq.map fun q => (q.2, rowL q)).Pairwise fun a b => a.1 ≤ b.1 := by
   rw [List.pairwise_map] at so ⊢
   exact so.imp fun h => Int.le_of_lt h
 have e := sort_uniq nd hm (zip_pm h) hs h2
 unfold sortP
 rw [e, List.map_map]; rfl
noncomputable def dRow (q : Int × Int) : PyData := .list [.int q.1, .int q.2]
theorem dPs_rows : ∀ rq : List (Int × Int), dPs (rq.map rowL) = some (rq.map dRow)
 | [] => rfl
 | q :: rq => by
   show (match dP (rowL q), dPs (rq.map rowL) with | some d, some ds => some (d :: ds) | _, _ => none) = _
   rw [dPs_rows rq]; rfl
theorem lay_rows : ∀ rq : List (Int × Int), PyData.canLayAll0 (rq.map dRow) = true
 | [] => rfl
 | q :: rq => by
   show (PyData.canLay0 (dRow q) && PyData.canLayAll0 (rq.map dRow)) = true
   rw [lay_rows rq]; rfl
theorem dep_rows : ∀ rq : List (Int × Int), PyData.depthAll (rq.map dRow) ≤ 1
 | [] => Nat.zero_le _
 | q :: rq => by
   have h := dep_rows rq
   show max (PyData.depth (dRow q)) (PyData.depthAll (rq.map dRow)) ≤ 1
   rw [show PyData.depth (dRow q) = 1 from rfl]; lia
theorem sh_rows (rq : List (Int × Int)) : PySem.SeqAt.shaped (.list (rq.map dRow)) = true := by
 show (PyData.canLayAll0 (rq.map dRow) && decide (PyData.depthAll (rq.map dRow) + 1 ≤ 64)) = true
 have := dep_rows rq
 rw [lay_rows, decide_eq_true (by exact m1 ‹_› (by decide))]; rfl
theorem ne_rows {f g : St → Option V} {σ : St} {i : Nat} {rq : List (Int × Int)} (hf : f σ = some (.own i)) (ho : σ.own[i]? = some (rq.map rowL)) (hg : g σ = some (.p (.lst (rq.map rowL)))) : cB (lift2V neD f g) σ = some false := by
 have e1 : dV σ (.own i) = some (.list (rq.map dRow)) := by
   show ((σ.own[i]?).map P.lst).bind dP = _
   rw [ho]
   show (dPs (rq.map rowL)).map PyData.list = _
   rw [dPs_rows]; rfl
 have e2 : dV σ (.p (.lst (rq.map rowL))) = some (.list (rq.map dRow)) := by
   show (dPs (rq.map rowL)).map PyData.list = _
   rw [dPs_rows]; rfl
 refine cB_of ?_
 unfold lift2V
 rw [hf, hg]
 have : neD σ (.own i) (.p (.lst (rq.map rowL))) = some (.bool false) := by
   have hs := sh_rows rq
   unfold neD
   rw [e1, e2]
   show (if _ then some (P.bool (!PyData.eqv (.list (rq.map dRow)) (.list (rq.map dRow)))) else none) = _
   rw [if_pos ⟨hs, hs⟩, PySem.SeqAt.eqv_refl _ (PySem.SeqAt.canLay_of_shaped hs)]; rfl
 simp only [this, Option.map_some]
theorem A4.z {σ : St} {c : List Int} {s : Nat} {msg am : Int} {came lost right wrong : List Nat} (A : A4 σ c s msg am came lost right wrong) : Z c s msg came lost right wrong := ⟨A.cl, A.sl, A.m1, A.m2, A.p, A.h3, A.q, A.w⟩
theorem ph3 {σ : St} {c : List Int} {s : Nat} {msg am : Int} {came lost right wrong : List Nat} (A : A4 σ c s msg am came lost right wrong) {R : SW} {Po : Post} (h : ∀ σ am dq rq od, A5 σ c s msg came lost right wrong 7 am dq rq od → R σ Po) : wSeq wl15 (wSeq wl16 R) σ Po := by
 have z := A.z
 refine ⟨7, rfl, by decide, ?_⟩
 refine turns z 7 0 σ am [] [] [] (by decide) ⟨A.len, A.ky, A.own, A.c0, A.c5, A.c8, A.c9, A.c11, A.c15, A.c17, A.c18, A.c19, A.c20, A.a0, List.Perm.refl _, List.Pairwise.nil, rfl, fun q hq => by cases hq⟩ fun σ1 am' dq rq od B => ?_
 have ho4 : σ1.own[4]? = some (dq.map rowL) := by rw [B.own]; rfl
 have ho5 : σ1.own[5]? = some (rq.map rowL) := by rw [B.own]; rfl
 have hnd : (dq.map fun q => q.2).Nodup := by
   have nd' : (rq.map fun q => q.2).Nodup := B.so.imp fun h => Int.ne_of_lt h
   have hp' : (rq.map fun q => q.2).Perm (dq.map fun q => q.2) := B.pm.map _
   exact hp'.nodup_iff.mp nd'
 have hdl : dq.length ≤ 7 := by
   have := congrArg List.length B.dk
   rw [List.length_map, List.length_map] at this
   have := kt_len (c := c) (lost := lost) (t := 7); lia
 have hso : cSort (cSub (cV 0) (cK (.int 1))) (cV 18) σ1 = some (.p (.lst (rq.map rowL))) := by
   unfold cSort
   rw [B.c18]
   show (match σ1.own[4]? with | some xs => (match keysOf (lamK (cSub (cV 0) (cK (.int 1))) []) xs with | some kz => if kz.Nodup ∧ xs.length < 64 then some (V.p (P.lst (sortP kz xs))) else none | none => none) | none => none) = _
   rw [ho4]
   simp only [key_rows]
   rw [if_pos ⟨hnd, by rw [List.length_map]; exact m1 ‹_› (by decide)⟩, sort_rows B.pm B.so]
 refine ⟨false, ne_rows B.c19 ho5 hso, ?_⟩
 exact h σ1 am' dq rq od B
noncomputable def chkB (s : Nat) (came : List Nat) : Bool := came.all fun k => decide (0 < pk s came / pI s k % pI s k) && decide (pk s came % pI s k = 0) && came.all fun j => decide (j = k) || decide (pk s came / pI s j % pI s k = 0)
theorem chkB_all : ∀ s < 8, ∀ came ∈ subs 7, chkB s came = true := by decide +kernel
theorem back_all : ∀ p ∈ l14, ∀ a < p.toNat, 0 < a → (backI p (a : Int)).length ≠ 0 ∧ (a : Int) * (backI p (a : Int)).headD 0 % p = 1 := by decide +kernel
theorem win_l14 : ∀ s < 8, ∀ k < 7, pI s k ∈ l14 := by decide +kernel
theorem back_of {s k : Nat} (hs : s < 8) (hk : k < 7) {a : Int} (h0 : 0 < a) (h1 : a < pI s k) : (backI (pI s k) a).length ≠ 0 ∧ a * (backI (pI s k) a).headD 0 % pI s k = 1 := by
 have := back_all (pI s k) (win_l14 s hs k hk) a.toNat (by lia) (by lia)
 rw [Int.toNat_of_nonneg (by exact q1 ‹_›)] at this
 exact this
theorem cross {s : Nat} {came : List Nat} (hs : s < 8) (ho : came.Pairwise (· < ·)) (h7 : ∀ k ∈ came, k < 7) {k : Nat} (hk : k ∈ came) : 0 < pk s came / pI s k % pI s k ∧ pk s came % pI s k = 0 ∧ ∀ j ∈ came, j ≠ k → pk s came / pI s j % pI s k = 0 := by
 have h := chkB_all s hs came (in_subs ho h7)
 unfold chkB at h
 have h := List.all_eq_true.mp h k hk
 simp only [Bool.and_eq_true, decide_eq_true_eq, List.all_eq_true, Bool.or_eq_true] at h
 obtain ⟨⟨a, b⟩, c⟩ := h
 exact ⟨a, b, fun j hj hne => (c j hj).resolve_left hne⟩
theorem tot_zero {N p : Int} : ∀ {qs : List (Int × Int)}, (∀ q ∈ qs, p ∣ N / q.2) → p ∣ totI N qs
 | [], _ => ⟨0, by simp [totI]⟩
 | q :: qs, h => by
   have h1 := h q (.head _)
   have h2 := tot_zero (N := N) (p := p) (qs := qs) fun q hq => h q (.tail _ hq)
   show p ∣ q.1 * (N / q.2) * _ + totI N qs
   exact Int.dvd_add (Int.dvd_mul_of_dvd_left (Int.dvd_mul_of_dvd_right h1)) h2
theorem tot_at {N : Int} {q0 : Int × Int} : ∀ {qs : List (Int × Int)}, (qs.map (·.2)).Nodup → q0 ∈ qs → (∀ q ∈ qs, q.2 ≠ q0.2 → q0.2 ∣ N / q.2) → q0.2 ∣ N / q0.2 * (backI q0.2 (N / q0.2 % q0.2)).headD 0 - 1 → q0.2 ∣ totI N qs - q0.1
 | [], _, h, _, _ => by cases h
 | q :: qs, nd, hm, hz, h1 => by
   rw [List.map_cons, List.nodup_cons] at nd
   rcases List.mem_cons.mp hm with rfl | hm
   · have h2 : q0.2 ∣ totI N qs := tot_zero fun q hq => hz q (.tail _ hq) fun e => nd.1 (e ▸ List.mem_map_of_mem hq)
     have e : totI N (q0 :: qs) - q0.1 = q0.1 * (N / q0.2 * (backI q0.2 (N / q0.2 % q0.2)).headD 0 - 1) + totI N qs := by
       show q0.1 * (N / q0.2) * (backI q0.2 (N / q0.2 % q0.2)).headD 0 + totI N qs - q0.1 = _
       grind
     rw [e]
     exact Int.dvd_add (Int.dvd_mul_of_dvd_right h1) h2
   · have hne : q.2 ≠ q0.2 := fun e => nd.1 (e ▸ List.mem_map_of_mem hm)
     have h2 := tot_at nd.2 hm (fun q hq => hz q (.tail _ hq)) h1
     have h3 := hz q (.head _) hne
     have e : totI N (q :: qs) - q0.1 = q.1 * (N / q.2) * (backI q.2 (N / q.2 % q.2)).headD 0 + (totI N qs - q0.1) := by
       show q.1 * (N / q.2) * (backI q.2 (N / q.2 % q.2)).headD 0 + totI N qs - q0.1 = _
       lia
     rw [e]
     exact Int.dvd_add (Int.dvd_mul_of_dvd_left (Int.dvd_mul_of_dvd_right h3)) h2
theorem key_at {s : Nat} {came : List Nat} {rq : List (Int × Int)} (hk : rq.map (·.2) = came.map (pI s)) {q : Int × Int} (hq : q ∈ rq) : ∃ k ∈ came, q.2 = pI s k := by
 have : q.2 ∈ rq.map (·.2) := List.mem_map_of_mem hq
 rw [hk] at this
 obtain ⟨k, h1, h2⟩ := List.mem_map.mp this
 exact ⟨k, h1, h2.symm⟩
theorem fN_eq {s : Nat} {came : List Nat} {rq : List (Int × Int)} (hk : rq.map (·.2) = came.map (pI s)) : fN rq = pk s came := by
 unfold fN
 rw [hk]; rfl
theorem rest_at {s : Nat} {came : List Nat} {rq : List (Int × Int)} (hs : s < 8) (ho : came.Pairwise (· < ·)) (h7 : ∀ k ∈ came, k < 7) (hk : rq.map (·.2) = came.map (pI s)) {q : Int × Int} (hq : q ∈ rq) : q.2 ∣ fR rq - q.1 := by
 obtain ⟨k, hkc, e⟩ := key_at hk hq
 have hk7 := h7 k hkc
 have hpr := pI_range hs hk7
 obtain ⟨c1, c2, c3⟩ := cross hs ho h7 hkc
 have hlt := Int.emod_lt_of_pos (pk s came / pI s k) (show 0 < pI s k by lia)
 obtain ⟨b1, b2⟩ := back_of hs hk7 c1 hlt
 have nd : (rq.map (·.2)).Nodup := by
   rw [hk]; exact (pw_pI hs ho h7).imp fun h => Int.ne_of_lt h
 have ht : q.2 ∣ totI (pk s came) rq - q.1 := by
   refine tot_at nd hq (fun q' hq' hne => ?_) ?_
   · obtain ⟨j, hj, e'⟩ := key_at hk hq'
     rw [e', e]
     refine Int.dvd_of_emod_eq_zero (c3 j hj fun h => hne (by rw [e', e, h]))
   · rw [e]
     obtain ⟨b, hb⟩ : ∃ b, b = (backI (pI s k) (pk s came / pI s k % pI s k)).headD 0 := ⟨_, rfl⟩
     rw [← hb] at b2 ⊢
     have : (pk s came / pI s k * b - 1) % pI s k = 0 := by
       rw [Int.sub_emod, Int.mul_emod]
       have h1 : pk s came / pI s k % pI s k * (b % pI s k) % pI s k = 1 := by
         rw [Int.mul_emod] at b2
         rw [Int.emod_emod_of_dvd _ (Int.dvd_refl _)] at b2
         exact b2
       rw [h1, show (1 : Int) % pI s k = 1 from Int.emod_eq_of_lt (by decide) (by exact q3 ‹_› ‹_›)]; simp
     exact Int.dvd_of_emod_eq_zero this
 have hN : q.2 ∣ pk s came := by rw [e]; exact Int.dvd_of_emod_eq_zero c2
 have e2 : fR rq - q.1 = (totI (pk s came) rq - q.1) - pk s came * (totI (pk s came) rq / pk s came) := by
   unfold fR
   rw [fN_eq hk, Int.emod_def]; lia
 rw [e2]
 exact Int.dvd_sub ht (Int.dvd_mul_of_dvd_left hN)
theorem cop_pair : ∀ s < 8, ∀ i < 7, ∀ j < 7, i ≠ j → (pI s i).natAbs.gcd (pI s j).natAbs = 1 := by decide +kernel
theorem cop_rest : ∀ p ∈ l14, ∀ a < p.toNat, 0 < a → Nat.gcd a p.toNat = 1 := by decide +kernel
theorem cop_list {s k : Nat} (hs : s < 8) (hk : k < 7) : ∀ {ks : List Nat}, (∀ j ∈ ks, j < 7) → k ∉ ks → Nat.Coprime (pI s k).natAbs (pk s ks).natAbs
 | [], _, _ => by
   show Nat.gcd _ 1 = 1
   exact Nat.gcd_one_right _
 | j :: ks, h7, hn => by
   show Nat.Coprime _ (pI s j * pk s ks).natAbs
   rw [Int.natAbs_mul]
   exact Nat.Coprime.mul_right (cop_pair s hs k hk j (h7 j (.head _)) fun e => hn (e ▸ .head _)) (cop_list hs hk (fun i hi => h7 i (.tail _ hi)) fun h => hn (.tail _ h))
theorem prod_dvd {s : Nat} {X : Int} (hs : s < 8) : ∀ {ks : List Nat}, (∀ j ∈ ks, j < 7) → ks.Nodup → (∀ k ∈ ks, pI s k ∣ X) → pk s ks ∣ X
 | [], _, _, _ => ⟨X, by show X = 1 * X; lia⟩
 | k :: ks, h7, nd, h => by
   obtain ⟨n1, n2⟩ := List.nodup_cons.mp nd
   have ih := prod_dvd hs (fun i hi => h7 i (.tail _ hi)) n2 fun i hi => h i (.tail _ hi)
   have hc := cop_list (s := s) hs (h7 k (.head _)) (fun i hi => h7 i (.tail _ hi)) n1
   have h1 := h k (.head _)
   show pI s k * pk s ks ∣ X
   rw [← Int.natAbs_dvd_natAbs] at ih h1 ⊢
   rw [Int.natAbs_mul]
   exact Nat.Coprime.mul_dvd_of_dvd_of_dvd hc h1 ih
theorem cop_not {s k : Nat} {y : Int} (hs : s < 8) (hk : k < 7) (h : ¬ pI s k ∣ y) : Nat.Coprime y.natAbs (pI s k).natAbs := by
 have hp := pI_range hs hk
 have hl := win_l14 s hs k hk
 obtain ⟨a, ha⟩ : ∃ a, a = y.natAbs % (pI s k).natAbs := ⟨_, rfl⟩
 have hlt : a < (pI s k).natAbs := by rw [ha]; exact Nat.mod_lt _ (by omega)
 have h0 : 0 < a := by
   rcases Nat.eq_zero_or_pos a with e | e
   · exfalso
     apply h
     rw [← Int.natAbs_dvd_natAbs]
     exact Nat.dvd_of_mod_eq_zero (by rw [← ha, e])
   · exact e
 have := cop_rest (pI s k) hl a (by omega) h0
 rw [show (pI s k).toNat = (pI s k).natAbs by omega] at this
 show Nat.gcd y.natAbs (pI s k).natAbs = 1
 rw [Nat.gcd_comm, Nat.gcd_rec, ← ha]; exact this
theorem cop_prod {s : Nat} {y : Int} (hs : s < 8) : ∀ {ks : List Nat}, (∀ j ∈ ks, j < 7) → (∀ k ∈ ks, ¬ pI s k ∣ y) → Nat.Coprime y.natAbs (pk s ks).natAbs
 | [], _, _ => Nat.gcd_one_right _
 | k :: ks, h7, h => by
   show Nat.Coprime _ (pI s k * pk s ks).natAbs
   rw [Int.natAbs_mul]
   exact Nat.Coprime.mul_right (cop_not hs (h7 k (.head _)) (h k (.head _))) (cop_prod hs (fun i hi => h7 i (.tail _ hi)) fun i hi => h i (.tail _ hi))
theorem pk_app {s : Nat} : ∀ {a b : List Nat}, pk s (a ++ b) = pk s a * pk s b
 | [], b => by show pk s b = 1 * pk s b; lia
 | k :: a, b => by
   show pI s k * pk s (a ++ b) = pI s k * pk s a * pk s b
   rw [pk_app, Int.mul_assoc]
noncomputable def chkC (s : Nat) (came : List Nat) : Bool := decide (came.length < 3) || (decide (1 ≤ (topI s came).getD 1 0) && decide ((topI s came).getD 1 0 ≤ (topI s came).getD 2 0) && came.all fun i => decide (pI s i ≤ (topI s came).getD 1 0) && came.all fun j => decide (j = i) || decide (pI s i * pI s j ≤ (topI s came).getD 2 0))
theorem chkC_all : ∀ s < 8, ∀ came ∈ subs 7, chkC s came = true := by decide +kernel
theorem spoilt_le {s : Nat} {came wrong : List Nat} {b : Nat} (hs : s < 8) (ho : came.Pairwise (· < ·)) (h7 : ∀ k ∈ came, k < 7) (h3 : 3 ≤ came.length) (hw : ∀ k ∈ wrong, k ∈ came) (nd : wrong.Nodup) (hl : wrong.length ≤ b) (hb : b ≤ 2) : pk s wrong ≤ (topI s came).getD b 0 := by
 have h := chkC_all s hs came (in_subs ho h7)
 unfold chkC at h
 simp only [Bool.or_eq_true, Bool.and_eq_true, decide_eq_true_eq, List.all_eq_true] at h
 obtain ⟨⟨t1, t2⟩, h⟩ := h.resolve_left (by lia)
 have t0 : (topI s came).getD 0 0 = 1 := rfl
 have hb3 : b = 0 ∨ b = 1 ∨ b = 2 := by lia
 match wrong, nd, hw, hl with
 | [], _, _, _ =>
   show 1 ≤ _
   rcases hb3 with rfl | rfl | rfl
   · rw [t0]; exact Int.le_refl _
   · exact t1
   · exact q4 ‹_› ‹_›
 | [i], _, hw, hl =>
   have e : pk s [i] = pI s i := by show pI s i * 1 = _; lia
   rw [e]
   have h1 := (h i (hw i (.head _))).1
   rcases hb3 with rfl | rfl | rfl
   · simp at hl
   · exact h1
   · exact q4 ‹_› ‹_›
 | [i, j], nd, hw, hl =>
   have e : pk s [i, j] = pI s i * pI s j := by show pI s i * (pI s j * 1) = _; rw [Int.mul_one]
   rw [e]
   have hij : j ≠ i := by simp at nd; exact fun e => nd e.symm
   have h1 := ((h i (hw i (.head _))).2 j (hw j (.tail _ (.head _)))).resolve_left hij
   rcases hb3 with rfl | rfl | rfl
   · simp at hl
   · simp at hl
   · exact h1
 | _ :: _ :: _ :: _, _, _, hl => simp at hl; lia
theorem pl_eq {s : Nat} {came : List Nat} {rq : List (Int × Int)} (hk : rq.map (·.2) = came.map (pI s)) {k : Nat} (h1 : 1 ≤ k) (h2 : k ≤ came.length) : pl rq k = pI s (came.getD (came.length - k) 0) := by
 have hl : rq.length = came.length := by simpa using congrArg List.length hk
 have hg := came_last (came := came) (i := came.length - k) (by lia)
 have e : (rq.map (·.2))[came.length - k]? = (came.map (pI s))[came.length - k]? := by rw [hk]
 rw [List.getElem?_map, List.getElem?_map, hg] at e
 unfold pl
 rw [hl]
 cases hr : rq[came.length - k]? with
 | none => rw [hr] at e; cases e
 | some q => rw [hr] at e; simpa using e
theorem fW_eq {s : Nat} {came : List Nat} {rq : List (Int × Int)} (hk : rq.map (·.2) = came.map (pI s)) (h3 : 3 ≤ came.length) : fW rq = topI s came := by
 unfold fW topI
 rw [pl_eq hk (by decide) (by lia), pl_eq hk (by decide) (by exact n1 ‹_›)]
theorem fb_eq {s : Nat} {came : List Nat} {rq : List (Int × Int)} (hk : rq.map (·.2) = came.map (pI s)) (h3 : 3 ≤ came.length) : fb rq (bnd s) = brn s came := by
 unfold fb brn
 rw [fW_eq hk h3, fN_eq hk]
theorem fw_eq {s : Nat} {came : List Nat} {rq : List (Int × Int)} (hk : rq.map (·.2) = came.map (pI s)) (h3 : 3 ≤ came.length) : fw rq (bnd s) = (topI s came).getD (brn s came) 0 := by
 unfold fw
 rw [fb_eq hk h3, fW_eq hk h3]
theorem the_place {σ : St} {c : List Int} {s : Nat} {msg : Int} {came lost right wrong : List Nat} {am : Int} {dq rq : List (Int × Int)} {od : List (List P)} (A : A5 σ c s msg came lost right wrong 7 am dq rq od) (z : Z c s msg came lost right wrong) {L : Nat} (x : Last (fN rq) (fR rq) L) (h0 : 0 ≤ fR rq) (h1 : fR rq < fN rq) :
   ∃ j, j ≤ L ∧ 1 ≤ j ∧ (∀ i, i < j → 2 * bnd s * fw rq (bnd s) ≤ er (fN rq) (fR rq) i) ∧ (∀ i, j ≤ i → i ≤ L → er (fN rq) (fR rq) i < 2 * bnd s * fw rq (bnd s)) ∧ er (fN rq) (fR rq) j = msg * et (fN rq) (fR rq) j ∧ ((et (fN rq) (fR rq) j).natAbs : Int) = pk s wrong ∧ (∀ i, i ≤ j → ((et (fN rq) (fR rq) i).natAbs : Int) ≤ fw rq (bnd s)) ∧ (∀ i, j < i → i ≤ L → fw rq (bnd s) < ((et (fN rq) (fR rq) i).natAbs : Int)) := by
 have hs := z.sl
 have ho := z.p.o
 have h7 := z.p.lt.1
 have hk := A.keys z
 have hbf := bnd_facts s hs
 refine wg fun P' bk => ?_
 obtain ⟨f1, f2, f3, f4, f5, f6⟩ := came_facts hs ho h7 z.h3
 have ndc : came.Nodup := ho.imp fun h => Nat.ne_of_lt h
 have nd : (right ++ wrong).Nodup := z.q.nodup_iff.mpr ndc
 obtain ⟨n1, n2, n3⟩ := List.nodup_append.mp nd
 have hrc : ∀ k ∈ right, k ∈ came := fun k h => z.q.mem_iff.mp (List.mem_append_left _ h)
 have hwc : ∀ k ∈ wrong, k ∈ came := fun k h => z.q.mem_iff.mp (List.mem_append_right _ h)
 have hr7 : ∀ k ∈ right, k < 7 := fun k h => h7 k (hrc k h)
 have hw7 : ∀ k ∈ wrong, k < 7 := fun k h => h7 k (hwc k h)
 have hE := pk_pos hs hw7
 have hC := pk_pos hs hr7
 have hN : pk s right * pk s wrong = fN rq := by rw [fN_eq hk, ← pk_app, pk_perm z.q]
 refine bk ?_
 have row : ∀ k ∈ came, ∃ xx, pI s k ∣ fR rq - xx ∧ Good s msg wrong k xx := fun k hkc => by
   have : pI s k ∈ rq.map (·.2) := by rw [hk]; exact List.mem_map_of_mem hkc
   obtain ⟨q, hq, e⟩ := List.mem_map.mp this
   have e' : q.2 = pI s k := e
   obtain ⟨k', hk', e2, G⟩ := A.gd q (A.pm.mem_iff.mp hq)
   have : k' = k := pI_inj hs hk' (h7 k hkc) (by rw [← e2, e'])
   subst this
   exact ⟨q.1, e' ▸ rest_at hs ho h7 hk hq, G⟩
 have hdv : ∀ k ∈ right, pI s k ∣ fR rq - msg := fun k hkr => by
   refine wg fun P' bk => ?_
   obtain ⟨xx, d, G⟩ := row k (hrc k hkr)
   have hx := G.r fun hw => n3 k hkr k hw rfl
   have e : fR rq - msg = (fR rq - xx) - pI s k * (msg / pI s k) := by
     rw [hx, Int.emod_def]; lia
   refine bk ?_
   rw [e]
   exact Int.dvd_sub d (Int.dvd_mul_right _ _)
 refine wg fun P' bk => ?_
 obtain ⟨y, hy⟩ := prod_dvd hs hr7 n1 hdv
 have hnd : ∀ k ∈ wrong, ¬ pI s k ∣ y := fun k hkw hd => by
   obtain ⟨xx, d, G⟩ := row k (hwc k hkw)
   have hp := pI_range hs (hw7 k hkw)
   have d2 : pI s k ∣ fR rq - msg := by rw [hy]; exact Int.dvd_mul_of_dvd_right hd
   have d3 : pI s k ∣ xx - msg := by
     have e : xx - msg = (fR rq - msg) - (fR rq - xx) := by lia
     rw [e]; exact Int.dvd_sub d2 d
   have := G.w hkw
   have hx0 := G.x0
   have hx1 := G.x1
   have e1 := Int.emod_emod_of_dvd xx (Int.dvd_refl (pI s k))
   have e2 : xx % pI s k = msg % pI s k := Int.emod_eq_emod_iff_emod_sub_eq_zero.mpr (Int.emod_eq_zero_of_dvd d3)
   rw [Int.emod_eq_of_lt hx0 hx1] at e2
   exact this e2
 have hg : Int.gcd y (pk s wrong) = 1 := cop_prod hs hw7 hnd
 have hle : pk s wrong ≤ fw rq (bnd s) := by
   rw [fw_eq hk z.h3]
   exact spoilt_le hs ho h7 z.h3 hwc n2 z.w f5
 refine bk ?_
 exact place_of h0 h1 x hE hle hbf.1 z.m1 z.m2 (by rw [fw_eq hk z.h3, fN_eq hk]; exact f6) hN hy hg
theorem found_is {σ : St} {c : List Int} {s : Nat} {msg : Int} {came lost right wrong : List Nat} {am : Int} {dq rq : List (Int × Int)} {od : List (List P)} (A : A5 σ c s msg came lost right wrong 7 am dq rq od) (z : Z c s msg came lost right wrong) :
   ∃ t : Int, (t.natAbs : Int) = pk s wrong ∧ opF0 [.lst (rq.map rowL), .int (bnd s)] = some (.lst [.int (brn s came : Int), .bool true, .int (msg * t), .int t]) := by
 have hs := z.sl
 have ho := z.p.o
 have h7 := z.p.lt.1
 have h3 := z.h3
 have hk := A.keys z
 have hbf := bnd_facts s hs
 refine wg fun P' bk => ?_
 obtain ⟨f1, f2, f3, f4, f5, f6⟩ := came_facts hs ho h7 z.h3
 have hN := fN_eq hk
 have hNp := pk_pos hs h7
 have h0 : 0 ≤ fR rq := Int.emod_nonneg _ (by lia)
 have h1 : fR rq < fN rq := Int.emod_lt_of_pos _ (by lia)
 have h2 : fN rq < 2 ^ 40 := by lia
 obtain ⟨x, hL⟩ := lastI_ok h0 h1 h2
 obtain ⟨j, j1, j2, j3, j4, j5, j6, j7, j8⟩ := the_place A z x h0 h1
 obtain ⟨L, hLe⟩ : ∃ L, L = lastI (fN rq) (fR rq) := ⟨_, rfl⟩
 rw [← hLe] at x hL j1 j4 j8
 have hQl : (fQ rq).length = L + 1 := by unfold fQ; rw [runQ_len, hLe]
 have hQg : ∀ i, i ≤ L → (fQ rq)[i]? = some (er (fN rq) (fR rq) i, et (fN rq) (fR rq) i) := fun i hi => by
   unfold fQ
   exact runQ_get (by lia)
 have p1 : ((fQ rq).map fun q => -q.1).Pairwise (· ≤ ·) := fQ_pw1 h0 h1 h2
 have p2 : ((fQ rq).map fun q => if q.2 < 0 then -q.2 else q.2).Pairwise (· ≤ ·) := fQ_pw2 h0 h1 h2
 have g1 : ∀ i, i ≤ L → ((fQ rq).map fun q => -q.1)[i]? = some (-er (fN rq) (fR rq) i) := fun i hi => by rw [List.getElem?_map, hQg i hi]; rfl
 have g2 : ∀ i, i ≤ L → ((fQ rq).map fun q => if q.2 < 0 then -q.2 else q.2)[i]? = some ((et (fN rq) (fR rq) i).natAbs : Int) := fun i hi => by
   rw [List.getElem?_map, hQg i hi, ← abs_eq]; rfl
 have hneg : -2 * bnd s * fw rq (bnd s) = -(2 * bnd s * fw rq (bnd s)) := by grind
 have hpl : fpl rq (bnd s) = j := by
   unfold fpl
   rw [hneg]
   have a := cnt_iff (x := -(2 * bnd s * fw rq (bnd s))) p1 (g1 j j1)
   have b := cnt_iff (x := -(2 * bnd s * fw rq (bnd s))) p1 (g1 (j - 1) (by lia))
   have a' := j4 j (Nat.le_refl _) j1
   have b' := j3 (j - 1) (by lia)
   have a2 : ¬ j < cnt ((fQ rq).map fun q => -q.1) (-(2 * bnd s * fw rq (bnd s))) := fun h => by have := a.mpr h; lia
   have b2 := b.mp (by lia)
   lia
 have hag : fag rq (bnd s) = (j : Int) := by
   unfold fag
   have a := (cnt_iff (x := fw rq (bnd s)) p2 (g2 j j1)).mp (j7 j (Nat.le_refl _))
   have b : cnt ((fQ rq).map fun q => if q.2 < 0 then -q.2 else q.2) (fw rq (bnd s)) ≤ j + 1 := by
     by_cases hj : j = L
     · have := cnt_le (ks := (fQ rq).map fun q => if q.2 < 0 then -q.2 else q.2) (x := fw rq (bnd s))
       rw [List.length_map, hQl] at this; lia
     · have hc := cnt_iff (x := fw rq (bnd s)) p2 (g2 (j + 1) (by lia))
       have hw := j8 (j + 1) (by lia) (by lia)
       have : ¬ j + 1 < cnt ((fQ rq).map fun q => if q.2 < 0 then -q.2 else q.2) (fw rq (bnd s)) := fun h => by have := hc.mpr h; lia
       lia
   lia
 have hl : rq.length = came.length := by simpa using congrArg List.length hk
 have hcl := z.p.len
 refine bk ?_
 refine ⟨et (fN rq) (fR rq) j, j6, ?_⟩
 have hok : FOk rq (bnd s) := by
   refine ⟨by lia, by lia, fun q hq => ?_, h2, by lia, by exact r1 ‹_› (by decide), by lia, by rw [hpl, hQl]; lia⟩
   refine wg fun P' bk => ?_
   obtain ⟨k, hkc, e⟩ := key_at hk hq
   have hk7 := h7 k hkc
   have hpr := pI_range hs hk7
   obtain ⟨c1, c2, c3⟩ := cross hs ho h7 hkc
   have hlt := Int.emod_lt_of_pos (pk s came / pI s k) (show 0 < pI s k by lia)
   obtain ⟨b1, b2⟩ := back_of hs hk7 c1 hlt
   obtain ⟨k', hk', e2, G⟩ := A.gd q (A.pm.mem_iff.mp hq)
   have hx0 := G.x0
   have hx1 := G.x1
   rw [← e2] at hx1
   refine bk ?_
   rw [hN, e]
   rw [e] at hx1
   exact ⟨hx0, by lia, by lia, by lia, c1, b1⟩
 rw [opF0_of hok]
 unfold resF
 rw [hpl, hag, fb_eq hk h3, hQg j j1]
 show some (P.lst [.int _, .bool ((j : Int) == (j : Int)), .int (er (fN rq) (fR rq) j), .int (et (fN rq) (fR rq) j)]) = _
 rw [j5, beq_self_eq_true]
theorem div_back {m t : Int} (h : t ≠ 0) : qD (m * t) t = m ∧ rD (m * t) t = 0 := by
 unfold qD rD
 by_cases hp : 0 < t
 · rw [if_pos hp, if_pos hp, Int.mul_ediv_cancel _ h, Int.mul_emod_left]; exact ⟨rfl, rfl⟩
 · rw [if_neg hp, if_neg hp]
   have e : -(m * t) = m * -t := by rw [Int.mul_neg]
   rw [e, Int.mul_ediv_cancel _ (by lia), Int.mul_emod_left]; exact ⟨rfl, rfl⟩
structure A6 (σ : St) (s : Nat) (msg t : Int) (wrong : List Nat) : Prop where
 len : σ.vals.length = 50
 own : σ.own[3]? = some (nP wrong)
 c5 : cV 5 σ = some (.p (.lst ((win s).map .int)))
 c9 : cV 9 σ = some (.p (.int msg))
 c17 : cV 17 σ = some (.own 3)
 c34 : cV 34 σ = some (.p (.int t))
theorem sh_tii (a b : Int) : PySem.SeqAt.shaped (.tuple [.int a, .int b]) = true := rfl
theorem ph4 {σ : St} {c : List Int} {s : Nat} {msg : Int} {came lost right wrong : List Nat} {am : Int} {dq rq : List (Int × Int)} {od : List (List P)} (A : A5 σ c s msg came lost right wrong 7 am dq rq od) (z : Z c s msg came lost right wrong) {R : SW} {Po : Post}
   (h : ∀ σ t, (t.natAbs : Int) = pk s wrong → t.natAbs < 2 ^ 40 → A6 σ s msg t wrong → R σ Po) : wSeq wl17 (wSeq wl18 R) σ Po := by
 refine wg fun P' bk => ?_
 obtain ⟨t, ht, hF⟩ := found_is A z
 have hs := z.sl
 have hlen := A.len
 have ndc : came.Nodup := z.p.o.imp fun h => Nat.ne_of_lt h
 have hwc : ∀ k ∈ wrong, k ∈ came := fun k h => z.q.mem_iff.mp (List.mem_append_right _ h)
 obtain ⟨n1, n2, n3⟩ := List.nodup_append.mp (z.q.nodup_iff.mpr ndc)
 obtain ⟨f1, f2, f3, f4, f5, f6⟩ := came_facts hs z.p.o z.p.lt.1 z.h3
 have hbf := bnd_facts s hs
 have hw1 := pk_pos hs fun k h => z.p.lt.1 k (hwc k h)
 have hwl := spoilt_le hs z.p.o z.p.lt.1 z.h3 hwc n2 z.w f5
 have htop : (topI s came).getD (brn s came) 0 ≤ 4000 := by
   have : brn s came < (topI s came).length := Nat.lt_of_le_of_lt f5 (by show 2 < 3; decide)
   rw [List.getD_eq_getElem?_getD, List.getElem?_eq_getElem this]
   exact (top_range hs z.p.lt.1 z.h3 _ (List.getElem_mem this)).2
 have ht0 : t ≠ 0 := by lia
 have hm1 := z.m1
 have hm2 := z.m2
 have htb : t.natAbs ≤ 4000 := by lia
 have hmt : (msg * t).natAbs < 2 ^ 64 := by
   rw [Int.natAbs_mul]
   have : msg.natAbs * t.natAbs ≤ 2 ^ 24 * 4000 := Nat.mul_le_mul (by lia) htb
   exact m1 ‹_› (by decide)
 have ho5 : σ.own[5]? = some (rq.map rowL) := by rw [A.own]; rfl
 obtain ⟨q1, q2⟩ := div_back (m := msg) (t := t) ht0
 obtain ⟨σ1, e1⟩ : ∃ σ1, σ1 = (((σ.put 31 (.p (.int (brn s came : Int)))).put 32 (.p (.bool true))).put 33 (.p (.int (msg * t)))).put 34 (.p (.int t)) := ⟨_, rfl⟩
 have l1 : σ1.vals.length = 50 := by rw [e1]; simp [put_len, hlen]
 have d1 : ∀ j, j ≠ 31 → j ≠ 32 → j ≠ 33 → j ≠ 34 → cV j σ1 = cV j σ := fun j h1 h2 h3 h4 => by
   rw [e1]; exact (cV_diff (Ne.symm h4)).trans ((cV_diff (Ne.symm h3)).trans ((cV_diff (Ne.symm h2)).trans (cV_diff (Ne.symm h1))))
 have v31 : cV 31 σ1 = some (.p (.int (brn s came : Int))) := by rw [e1]; simp [cV_put, put_len, hlen]
 have v32 : cV 32 σ1 = some (.p (.bool true)) := by rw [e1]; simp [cV_put, put_len, hlen]
 have v33 : cV 33 σ1 = some (.p (.int (msg * t))) := by rw [e1]; simp [cV_put, put_len, hlen]
 have v34 : cV 34 σ1 = some (.p (.int t)) := by rw [e1]; simp [cV_put, put_len, hlen]
 refine bk ?_
 refine ⟨.p (.lst [.int (brn s came : Int), .bool true, .int (msg * t), .int t]), [.int (brn s came : Int), .bool true, .int (msg * t), .int t], σ1, ?_, rfl, by rw [e1]; rfl, ?_⟩
 · refine cApp_of (vs := [.own 5, .p (.int (bnd s))]) (cCons_of A.c19 (cCons_of A.c8 rfl)) (opF_of (ps := [.lst (rq.map rowL), .int (bnd s)]) ?_ hF)
   show (match toP σ (.own 5), toPs σ [.p (.int (bnd s))] with | some x, some xs => some (x :: xs) | _, _ => none) = _
   rw [show toP σ (.own 5) = some (.lst (rq.map rowL)) by show (σ.own[5]?).map P.lst = _; rw [ho5]; rfl]; rfl
 refine ⟨false, ?_, ?_⟩
 · have c1 : (cB (lift2 neP (cV 31) (cV 15))) σ1 = some false := cB_of (lift2_of v31 ((d1 15 (by decide) (by decide) (by decide) (by decide)).trans A.c15) (by show some (P.bool (_ != _)) = _; simp))
   have c2 : (cB (lift2 isNotP (cV 32) (cK (.bool true)))) σ1 = some false := cB_of (lift2_of v32 (b := .bool true) rfl rfl)
   have hcall := callD (f := cV 33) (g := cV 34) (σ := σ1) v33 v34 hmt ht0 (by exact m1 ‹_› (by decide))
   rw [q1, q2] at hcall
   have c3 := ne_self (v := .p (.tup [.int msg, .int 0])) (d := .tuple [.int msg, .int 0]) hcall (two_tup (f := cV 9) (g := cK (.int 0)) (σ := σ1) ((d1 9 (by decide) (by decide) (by decide) (by decide)).trans A.c9) rfl) rfl (sh_tii _ _)
   unfold cOr
   rw [c1]
   simp only [c2, c3]; rfl
 refine h σ1 t ht (by exact m1 ‹_› (by decide)) ⟨l1, by rw [e1, put_own, put_own, put_own, put_own, A.own]; rfl, (d1 5 (by decide) (by decide) (by decide) (by decide)).trans A.c5, (d1 9 (by decide) (by decide) (by decide) (by decide)).trans A.c9, (d1 17 (by decide) (by decide) (by decide) (by decide)).trans A.c17, v34⟩
theorem spoilt_loop {s : Nat} {msg t : Int} {wrong : List Nat} {Po : Post} (hs : s < 8) : ∀ (ks : List Nat) (acc : Int) (σ : St), (∀ k ∈ ks, k < 7) → 1 ≤ acc → acc * pk s ks < 2 ^ 64 → A6 σ s msg t wrong → cV 35 σ = some (.p (.int acc)) →
   (∀ σ', A6 σ' s msg t wrong → cV 35 σ' = some (.p (.int (acc * pk s ks))) → Po .next σ') →
   wTurns (fun σ => σ.own[3]? = some (nP wrong)) (fun σ v => some (σ.put 3 v)) (wSeq (wAug 35 imulP (cSub (cV 5) (cV 3))) wNil) (nP ks) σ Po
 | [], acc, σ, _, _, _, A, h35, h => by
   have := h σ A (by show _ = some (V.p (P.int (acc * 1))); rw [Int.mul_one]; exact h35)
   exact this
 | k :: ks, acc, σ, h7, ha, hb, A, h35, h => by
   have hk := h7 k (.head _)
   have hp := pI_range hs hk
   have hq := pk_pos hs fun i hi => h7 i (.tail _ hi)
   have hlen := A.len
   have e : acc * pk s (k :: ks) = acc * pI s k * pk s ks := by show acc * (pI s k * pk s ks) = _; rw [Int.mul_assoc]
   have h1 : acc * 1 ≤ acc * pI s k := iml (by lia) (by exact q1 ‹_›)
   have h2 : acc * pI s k * 1 ≤ acc * pI s k * pk s ks := iml hq (by lia)
   have d : ∀ j, j ≠ 3 → cV j (σ.put 3 (.p (.int (k : Int)))) = cV j σ := fun j hj => cV_diff (Ne.symm hj)
   refine ⟨σ.put 3 (.p (.int (k : Int))), rfl, .int acc, .int (pI s k), .int (acc * pI s k), join_some ((d 35 (by decide)).trans h35), sub_int ((d 5 (by decide)).trans A.c5) (cV_same (by lia)) (by exact m3 ‹_› (by decide)) (win_get hs hk), ?_, A.own, ?_⟩
   · (delta imulP; dsimp only); rw [if_pos (by exact na (by lia))]
   · have d2 : ∀ j, j ≠ 3 → j ≠ 35 → cV j ((σ.put 3 (.p (.int (k : Int)))).put 35 (.p (.int (acc * pI s k)))) = cV j σ := fun j h1 h2 => (cV_diff (Ne.symm h2)).trans (d j h1)
     refine spoilt_loop hs ks (acc * pI s k) _ (fun i hi => h7 i (.tail _ hi)) (by lia) (by rw [← e]; exact hb) ⟨by rw [put_len, put_len, hlen], A.own, (d2 5 (by decide) (by decide)).trans A.c5, (d2 9 (by decide) (by decide)).trans A.c9, (d2 17 (by decide) (by decide)).trans A.c17, (d2 34 (by decide) (by decide)).trans A.c34⟩ (cV_same (by rw [put_len, hlen]; decide)) fun σ' A' h' => ?_
     exact h σ' A' (by rw [e]; exact h')
theorem div_iff {s k : Nat} {t : Int} {wrong : List Nat} (hs : s < 8) (hk : k < 7) (h7 : ∀ j ∈ wrong, j < 7) (ht : (t.natAbs : Int) = pk s wrong) : t % pI s k = 0 ↔ k ∈ wrong := by
 have hp := pI_range hs hk
 have hd : pI s k ∣ t ↔ pI s k ∣ pk s wrong := by rw [← ht, Int.dvd_natAbs]
 constructor
 · intro h
   have h1 := hd.mp (Int.dvd_of_emod_eq_zero h)
   rcases Classical.em (k ∈ wrong) with h2 | h2
   · exact h2
   · exfalso
     have hc := cop_list hs hk h7 h2
     have h3 := Int.natAbs_dvd_natAbs.mpr h1
     have h4 := Nat.Coprime.eq_one_of_dvd hc h3
     lia
 · intro h
   obtain ⟨i, hi⟩ := List.getElem?_of_mem h
   have hpm := erase_perm wrong i k hi
   refine Int.emod_eq_zero_of_dvd (hd.mpr ?_)
   rw [pk_perm hpm]
   exact Int.dvd_mul_right _ _
theorem last_loop {s : Nat} {msg t : Int} {wrong : List Nat} {sp : Int} {Po : Post} (hs : s < 8) (h7 : ∀ j ∈ wrong, j < 7) (ht : (t.natAbs : Int) = pk s wrong) (htb : t.natAbs < 2 ^ 40) : ∀ (n k : Nat) (σ : St), k + n = 7 → A6 σ s msg t wrong → cV 35 σ = some (.p (.int sp)) →
   (∀ σ', A6 σ' s msg t wrong → cV 35 σ' = some (.p (.int sp)) → Po .next σ') →
   wTurns (fun zz => True) (fun σ v => some (σ.put 3 v)) (wSeq (wUnp [23, 36] (cApp (opF opD) (cCons (cV 34) (cCons (cSub (cV 5) (cV 3)) cNil)))) (wSeq (wIf (cOr (cB (lift2 neP (lift2 addP (lift2 mulP (cV 23) (cSub (cV 5) (cV 3))) (cV 36)) (cV 34))) (cOr (cNot (cCh leP ltP (cK (.int 0)) (cV 36) (cSub (cV 5) (cV 3)))) (cOr (cB (lift2 neP (lift2 eqP (cV 36) (cK (.int 0))) (cIn (cV 3) (cV 17)))) (cKB false)))) (wSeq (wRet (cK (.bool false))) wNil) wNil) wNil)) (rangeP (k : Int) n) σ Po
 | 0, k, σ, hn, A, h35, h => h σ A h35
 | n + 1, k, σ, hn, A, h35, h => by
   have hk : k < 7 := by lia
   have hp := pI_range hs hk
   have hlen := A.len
   obtain ⟨p, hpe⟩ : ∃ p, p = pI s k := ⟨_, rfl⟩
   rw [← hpe] at hp
   obtain ⟨σ1, e1⟩ : ∃ σ1, σ1 = σ.put 3 (.p (.int (k : Int))) := ⟨_, rfl⟩
   have l1 : σ1.vals.length = 50 := by rw [e1, put_len, hlen]
   have d1 : ∀ j, j ≠ 3 → cV j σ1 = cV j σ := fun j hj => by rw [e1]; exact cV_diff (Ne.symm hj)
   have v3 : cV 3 σ1 = some (.p (.int (k : Int))) := by rw [e1]; exact cV_same (by lia)
   refine ⟨σ1, by rw [e1], ?_⟩
   have hp1 : cSub (cV 5) (cV 3) σ1 = some (.p (.int p)) := by rw [hpe]; exact sub_int ((d1 5 (by decide)).trans A.c5) v3 (by lia) (win_get hs hk)
   have w34 : cV 34 σ1 = some (.p (.int t)) := (d1 34 (by decide)).trans A.c34
   obtain ⟨σ2, e2⟩ : ∃ σ2, σ2 = (σ1.put 23 (.p (.int (t / p)))).put 36 (.p (.int (t % p))) := ⟨_, rfl⟩
   have l2 : σ2.vals.length = 50 := by rw [e2, put_len, put_len, l1]
   have d2 : ∀ j, j ≠ 23 → j ≠ 36 → cV j σ2 = cV j σ1 := fun j h1 h2 => by rw [e2]; exact (cV_diff (Ne.symm h2)).trans (cV_diff (Ne.symm h1))
   have v36 : cV 36 σ2 = some (.p (.int (t % p))) := by rw [e2]; exact cV_same (by rw [put_len, l1]; decide)
   have v23 : cV 23 σ2 = some (.p (.int (t / p))) := by rw [e2]; exact (cV_diff (by decide)).trans (cV_same (by lia))
   have g : ∀ j, j ≠ 3 → j ≠ 23 → j ≠ 36 → cV j σ2 = cV j σ := fun j h1 h2 h3 => (d2 j h2 h3).trans (d1 j h1)
   have u3 : cV 3 σ2 = some (.p (.int (k : Int))) := (d2 3 (by decide) (by decide)).trans v3
   have hp2 : cSub (cV 5) (cV 3) σ2 = some (.p (.int p)) := by rw [hpe]; exact sub_int ((g 5 (by decide) (by decide) (by decide)).trans A.c5) u3 (by lia) (win_get hs hk)
   have ho : σ2.own[3]? = some (nP wrong) := by rw [e2, e1]; exact A.own
   refine ⟨.p (.tup [.int (t / p), .int (t % p)]), [.int (t / p), .int (t % p)], σ2, ?_, rfl, by rw [e2]; rfl, ?_⟩
   · have := callD (f := cV 34) (g := cSub (cV 5) (cV 3)) (σ := σ1) w34 hp1 (by lia) (by lia) (by lia)
     rw [this]; dsimp only [qD, rD]; rw [if_pos (by lia), if_pos (by lia)]
   have hr0 := Int.emod_nonneg t (show p ≠ 0 by lia)
   have hr1 := Int.emod_lt_of_pos t (show 0 < p by lia)
   refine ⟨false, ?_, ?_⟩
   · have hqb : (t / p).natAbs < 2 ^ 64 := by have := Int.natAbs_ediv_le_natAbs t p; lia
     have c1 : (cB (lift2 neP (lift2 addP (lift2 mulP (cV 23) (cSub (cV 5) (cV 3))) (cV 36)) (cV 34))) σ2 = some false := by
       refine cB_of (lift2_of (addI (mulI v23 hp2 hqb) v36) ((g 34 (by decide) (by decide) (by decide)).trans A.c34) ?_)
       show some (P.bool (t / p * p + t % p != t)) = _
       rw [Int.mul_comm, Int.mul_ediv_add_emod]; simp
     have c2 : (cNot (cCh leP ltP (cK (.int 0)) (cV 36) (cSub (cV 5) (cV 3)))) σ2 = some false := by
       dsimp only [cNot, cCh]
       rw [v36, hp2]
       simp [cK, leP, ltP, hr0, hr1]
     have c3 : (cB (lift2 neP (lift2 eqP (cV 36) (cK (.int 0))) (cIn (cV 3) (cV 17)))) σ2 = some false := by
       refine cB_of (lift2_of (lift2_of v36 (b := .int 0) rfl rfl) (in_own u3 ((g 17 (by decide) (by decide) (by decide)).trans A.c17) ho) ?_)
       show some (P.bool ((t % p == 0) != decide (k ∈ wrong))) = _
       have hi := div_iff hs hk h7 ht
       rw [← hpe] at hi
       by_cases hw : k ∈ wrong
       · rw [decide_eq_true hw, hi.mpr hw]; rfl
       · have hne : t % p ≠ 0 := fun e => hw (hi.mp e)
         rw [decide_eq_false hw, eqb_f hne]; rfl
     dsimp only [cOr]
     rw [c1]
     simp only [c2, c3]; rfl
   · exact ⟨trivial, last_loop hs h7 ht htb n (k + 1) σ2 (by lia) ⟨l2, ho, (g 5 (by decide) (by decide) (by decide)).trans A.c5, (g 9 (by decide) (by decide) (by decide)).trans A.c9, (g 17 (by decide) (by decide) (by decide)).trans A.c17, (g 34 (by decide) (by decide) (by decide)).trans A.c34⟩ ((g 35 (by decide) (by decide) (by decide)).trans h35) h⟩
theorem ph5 {σ : St} {s : Nat} {msg t : Int} {wrong : List Nat} (hs : s < 8) (h7 : ∀ j ∈ wrong, j < 7) (ht : (t.natAbs : Int) = pk s wrong) (htb : t.natAbs < 2 ^ 40) (A : A6 σ s msg t wrong) {Po : Post} (h : ∀ σ, Po (.ret (.p (.bool true))) σ) : wSeq wl19 (wSeq wl20 (wSeq wl21 (wSeq wl22 wNil))) σ Po := by
 have hlen := A.len
 refine ⟨.p (.int 1), rfl, ?_⟩
 have d : ∀ j, j ≠ 35 → cV j (σ.put 35 (.p (.int 1))) = cV j σ := fun j hj => cV_diff (Ne.symm hj)
 refine ⟨.own 3, (d 17 (by decide)).trans A.c17, nP wrong, A.own, ?_⟩
 refine spoilt_loop hs wrong 1 _ h7 (by decide) (by lia) ⟨by rw [put_len, hlen], A.own, (d 5 (by decide)).trans A.c5, (d 9 (by decide)).trans A.c9, (d 17 (by decide)).trans A.c17, (d 34 (by decide)).trans A.c34⟩ (cV_same (by lia)) fun σ1 B h35 => ?_
 rw [Int.one_mul] at h35
 refine ⟨7, rfl, by decide, ?_⟩
 refine last_loop hs h7 ht htb 7 0 σ1 (by decide) B h35 fun σ2 C h35' => ?_
 refine ⟨true, msg, ?_, C.c9, h σ2⟩
 have ha : cApp absA (cCons (cV 34) cNil) σ2 = some (.p (.int (if t < 0 then -t else t))) := cApp_of (vs := [.p (.int t)]) (cCons_of C.c34 rfl) rfl
 refine lift2_of ha h35' ?_
 rw [abs_eq, ht]
 show some (P.bool (_ == _)) = _
 simp
theorem law_holds : PySem.Challenge.rw_ta0026_01.Holds := by
 refine law_top fun xs hl => law_true ?_
 rw [W_law_eq]
 refine ph1 hl fun σ c s msg mix A => ph2 A fun σ am came lost right wrong B => ph3 B fun σ am dq rq od C => ph4 C B.z fun σ t ht htb D => ?_
 exact ph5 B.sl (fun j hj => B.p.lt.1 j (B.q.mem_iff.mp (List.mem_append_right _ hj))) ht htb D fun σ => rfl
end Mine
end
theorem PySem.Challenge.cw_ta0026_01_holds : PySem.Challenge.rw_ta0026_01.Holds :=
  Mine.law_holds
