import PyProof.Rows.All
import Wide.All
import OpenK.AllK
import Wide.FinOn
import OpenK.XGo
import OpenK.XRun
import KE.KxBytes
import KE.KIntText
import KE.KIsBytes
import KE.KPop
import KE.KGrown
import KE.KBytesCut
import OpenK.KCell
import KE.KCells
import KE.LcTurns
import PyProof.ExcBaseAll.Exception
import PyProof.ExcClass
import KE.KLcFree
import KE.KxDecode
import KE.KFromBytes
import KE.KSuper
import PyProof.TupleOfSeq
import KE.KParD
import KE.RegKIsNot
import PyProof.ExcAttrAll.Exception
import KE.KCallOwn
import PyProof.ExcStrAll.Exception
import Lean
import PySem.Challenge.RW_ez0337_01
set_option Elab.async false
set_option linter.all false
section
local macro_rules | `(tactic| walk_at $s:str) => `(tactic| k_extra $s)
section EzHook
open PySem PySem.W PyProof.Rows
namespace Mine
/-- the objects at rising addresses, in one pass over the heap -/
def getOf (o : Obj) : Option Obj := match o with
  | ⟨_, _, .freed, _⟩ => none
  | o => some o
def pick : List Obj → List Addr → Nat → List (Option Obj)
  | [], as, _ => as.map fun _ => none
  | _ :: _, [], _ => []
  | o :: os, a :: as, i => match Nat.beq i a with
    | true => getOf o :: pick os as (i + 1)
    | false => pick os (a :: as) (i + 1)
def rising : Nat → List Addr → Bool
  | _, [] => true
  | i, a :: as => match Nat.ble i a with
    | true => rising (a + 1) as
    | false => false
theorem rising_le : ∀ (as : List Addr) (i : Nat), rising i as = true → ∀ a ∈ as, i ≤ a
  | [], _, _, _, h => nomatch h
  | b :: bs, i, h, a, ha => by
    unfold rising at h
    split at h
    · rename_i q
      have q' : i ≤ b := Nat.le_of_ble_eq_true q
      rcases List.mem_cons.mp ha with rfl | ha
      · exact q'
      · have := rising_le bs (b + 1) h a ha
        omega
    · cases h
theorem rising_mono : ∀ (as : List Addr) (i : Nat), rising i as = true → (∀ a ∈ as, a ≠ i) → rising (i + 1) as = true
  | [], _, _, _ => rfl
  | b :: bs, i, h, hn => by
    unfold rising at h ⊢
    split at h
    · rename_i q
      have q' : i ≤ b := Nat.le_of_ble_eq_true q
      have hne : b ≠ i := hn b (.head _)
      have : Nat.ble (i + 1) b = true := Nat.ble_eq_true_of_le (Nat.lt_of_le_of_ne q' (Ne.symm hne))
      rw [this]
      exact h
    · cases h
theorem pick_eq : ∀ (os : List Obj) (as : List Addr) (i : Nat), rising i as = true → pick os as i = as.map fun a => (os[a - i]?).bind getOf
  | [], as, i, _ => by
    unfold pick
    apply List.map_congr_left
    intro a _
    simp
  | _ :: _, [], _, _ => rfl
  | o :: os, a :: as, i, h => by
    have hle := rising_le _ _ h
    unfold rising at h
    split at h
    · rename_i q
      have q' : i ≤ a := Nat.le_of_ble_eq_true q
      unfold pick
      split
      · rename_i e
        have e' : i = a := Nat.eq_of_beq_eq_true e
        subst e'
        rw [pick_eq os as (i + 1) h, List.map_cons]
        have hi := rising_le _ _ h
        congr 1
        · simp
        · apply List.map_congr_left
          intro b hb
          have := hi b hb
          rw [show b - i = (b - (i + 1)) + 1 by omega]
          simp
      · rename_i e
        have e' : i ≠ a := by rintro rfl; simp at e
        have h' : rising (i + 1) (a :: as) = true := by
          unfold rising
          have : Nat.ble (i + 1) a = true := Nat.ble_eq_true_of_le (Nat.lt_of_le_of_ne q' e')
          rw [this]; exact h
        rw [pick_eq os (a :: as) (i + 1) h']
        have hi := rising_le _ _ h'
        apply List.map_congr_left
        intro b hb
        have := hi b hb
        rw [show b - i = (b - (i + 1)) + 1 by omega]
        simp
    · cases h
theorem getOf_get (h : Heap) (a : Addr) : (h.objs.toList[a]?).bind getOf = h.get? a := by
  unfold Heap.get? getOf
  rw [Array.getElem?_toList]
  cases h.objs[a]? with
  | none => rfl
  | some o =>
    obtain ⟨c, d, dt, sl⟩ := o
    cases dt <;> rfl
def hook (K : Params → Frag) (as : List Addr) (e : ∀ P, as = (K P).map (·.1)) : Hook :=
  ⟨Bool × List (Option Obj), fun s => (rising 0 as, pick s.heap.objs.toList as 0), fun w => (true, (K w.params).map fun p => some p.2), InK K,
    fun w s h => by
      have h1 : rising 0 as = true := congrArg Prod.fst h
      have h2 : pick s.heap.objs.toList as 0 = (K w.params).map fun p => some p.2 := congrArg Prod.snd h
      rw [pick_eq _ _ _ h1] at h2
      refine InK.of e w s ?_
      rw [← h2]
      apply List.map_congr_left
      intro a _
      rw [Nat.sub_zero]
      exact (getOf_get _ _).symm,
    InK.keeps⟩
theorem in_of {K : Params → Frag} {as : List Addr} {e : ∀ P, as = (K P).map (·.1)} {w : World} {h : Heap} (Y : (id (hook K as e)).says w h) : (K w.params).In h := Y
end Mine
end EzHook
section EzC
open PySem PySem.W PyProof.Rows PySem.Calls
namespace Mine
/-- the codes that may hold a bytearray's buffer while they stand on the stack -/
def holdIds : List String := Builtin.Bytes.decodersThatHold ++ ["bytearray.__contains__", "bytearray.__mod__", "bytearray.__rmod__", "_struct.pack_into.held", "bytearray.find.held"]
def badC : Code → Bool
  | .builtin id _ => holdIds.contains id
  | _ => false
/-- no such code stands in a context -/
def CleanB (Γ : Ctx) : Prop := ∀ x ∈ Γ.below, badC x.1 = false
def Clean (Γ : Ctx) : Prop := badC Γ.code = false ∧ CleanB Γ
/-- the weakest precondition over clean contexts; nothing is raised -/
def wpC {α : Type} (M : Model) (A : Around) (t : Sem α) (Q : α → Shared → Prop) (s : Shared) : Prop :=
  ∀ Γ p, Γ.In A → Clean Γ → Sem.wp M Γ t (fun a _ s' => Q a s') (fun _ _ _ => False) p s
def codeC (M : Model) (A : Around) (c : Code) (R : Result → Shared → Prop) (s : Shared) : Prop :=
  ∀ Γ p, Γ.code = c → Γ.Below A → CleanB Γ → wpCode M Γ R p s

section
variable {α β : Type} {M : Model} {A : Around} {s : Shared}
theorem C_of {t : Sem α} {Q : α → Shared → Prop} (h : wpAny M A t Q (fun _ _ => False) s) : wpC M A t Q s := fun Γ p hΓ _ => h Γ p hΓ
theorem codeC_of {c : Code} {R : Result → Shared → Prop} (h : codeAny M A c R s) : codeC M A c R s := fun Γ p hc hΓ _ => h Γ p hc hΓ
theorem C_mono {t : Sem α} {Q Q' : α → Shared → Prop} (h : wpC M A t Q s) (hQ : ∀ a s, Q a s → Q' a s) : wpC M A t Q' s :=
  fun Γ p hΓ hC => Sem.wp_mono M Γ t (fun a _ s => hQ a s) (fun _ _ _ h => h) p s (h Γ p hΓ hC)
theorem codeC_mono {c : Code} {R R' : Result → Shared → Prop} (h : codeC M A c R s) (hR : ∀ r s, R r s → R' r s) : codeC M A c R' s :=
  fun Γ p hc hΓ hC => wpCode_mono hR (h Γ p hc hΓ hC)
theorem C_pure {a : α} {Q : α → Shared → Prop} (h : Q a s) : wpC M A (pure a) Q s := fun _ _ _ _ => h
theorem C_bind {m : Sem α} {f : α → Sem β} {Q : β → Shared → Prop} (h : wpC M A m (fun a s' => wpC M A (f a) Q s') s) : wpC M A (m >>= f) Q s := fun Γ p hΓ hC => by
  rw [Sem.wp_bind']
  exact Sem.wp_mono M Γ m (fun a p' s' h' => h' Γ p' hΓ hC) (fun _ _ _ h' => h') p s (h Γ p hΓ hC)
/-- a step that asks nothing of the stack, the rest over clean contexts -/
theorem C_bindK {m : Sem α} {f : α → Sem β} {Q : β → Shared → Prop} (h : wpAny M A m (fun a s' => wpC M A (f a) Q s') (fun _ _ => False) s) : wpC M A (m >>= f) Q s := C_bind (C_of h)
theorem C_holding {vs : List Value} {m : Sem α} {Q : α → Shared → Prop} (h : wpC M A m Q s) : wpC M A (holding vs m) Q s :=
  fun Γ p hΓ hC => by rw [Sem.wp_holding]; exact h Γ p hΓ hC
theorem C_onRaise {m : Sem α} {k : Value → Sem Unit} {Q : α → Shared → Prop} (h : wpC M A m Q s) : wpC M A (m.onRaise k) Q s := fun Γ p hΓ hC => by
  rw [Sem.wp_onRaise]
  exact Sem.wp_mono M Γ m (fun _ _ _ h' => h') (fun _ _ _ h' => h'.elim) p s (h Γ p hΓ hC)
theorem C_attempt {m : Sem α} {Q : Except Value α → Shared → Prop} (h : wpC M A m (fun a => Q (.ok a)) s) : wpC M A m.attempt Q s := fun Γ p hΓ hC => by
  rw [Sem.wp_attempt]
  exact Sem.wp_mono M Γ m (fun _ _ _ h' => h') (fun _ _ _ h' => h'.elim) p s (h Γ p hΓ hC)
theorem C_standAt {pos : Pos} {Q : Unit → Shared → Prop} (h : Q () s) : wpC M A (standAt pos) Q s := fun _ _ _ _ => h
theorem C_rule {t : String} {Q : Unit → Shared → Prop} (h : Q () s) : wpC M A (rule t) Q s := fun _ _ _ _ => h
theorem C_point {Q : Unit → Shared → Prop} (h : Q () s) : wpC M A point Q s := C_of (wpAny_point h)

theorem clean_enter {Γ : Ctx} {c : Code} {hd : Option Value} {p : Pos} (hC : Clean Γ) : CleanB (Γ.enter c hd p) := by
  intro x hx
  rcases List.mem_cons.mp hx with rfl | hx
  · exact hC.1
  · exact hC.2 x hx
theorem C_run {c : Code} {h : Option Value} {Q : Flow → Shared → Prop} (hc : codeC M (A.mark h) c (fun r s' => ∃ f, r = .ok f ∧ Q f s') s) (hnb : h ≠ some byPass := by intro x; cases x) :
    wpC M A (run c h) Q s := fun Γ p hΓ hC => by
  rw [Sem.wp_run]
  refine wpCode_mono ?_ (hc _ p rfl (hΓ.enter c h p hnb) (clean_enter hC))
  rintro r s' ⟨f, rfl, hq⟩
  exact hq
theorem mark_none (A : Around) : A.mark none = A := by cases A; rfl
theorem C_runValue {c : Code} {Q : Value → Shared → Prop} (hc : codeC M A c (fun r s' => ∃ v, r = .ok (.ret v) ∧ Q v s') s) : wpC M A (runValue c) Q s := fun Γ p hΓ hC => by
  rw [Sem.wp_runValue]
  refine wpCode_mono ?_ (hc _ p rfl (hΓ.enter c none p (by intro x; cases x)) (clean_enter hC))
  rintro r s' ⟨f, rfl, hq⟩
  exact hq
theorem C_call {f : Value} {pos : List Value} {kw : List (Str × Value)} {Q : Value → Shared → Prop} (hc : codeC M A (.call f ⟨pos, kw⟩) (fun r s' => ∃ v, r = .ok (.ret v) ∧ Q v s') s) :
    wpC M A (call f pos kw) Q s := C_runValue hc
theorem C_keep {vs : List Value} {m : Sem α} {Q : α → Shared → Prop} (h : wpC M A m Q s) : wpC M A (m.keep vs) Q s := fun Γ p hΓ hC => by
  have := h Γ p hΓ hC
  rw [Sem.wp_keep]
  exact this
theorem codeC_tree {c : Code} {R : Result → Shared → Prop} (hb : badC c = false)
    (h : wpC M (A.under c) (M.den c) (fun fin s' => match fin with | .done f => R (.ok f) s' | .again c' => c'.quiet = true ∧ codeC M A c' R s') s) : codeC M A c R s := fun Γ p hc hΓ hC => by
  subst hc
  rw [wpCode_iff_wp]
  refine Sem.wp_mono M Γ _ (fun fin p' s' h' => ?_) (fun _ _ _ h' => h'.elim) p s (h Γ p hΓ.in ⟨hb, hC⟩)
  cases fin with
  | done f => exact h'
  | again c' => exact ⟨h'.1, h'.2 (Γ.goto c') p' rfl (hΓ.goto c') hC⟩
theorem C_runOwn {c : Code} {env : Env} {h : Option Value} {Q : Flow → Shared → Prop} (hc : codeC M (A.mark h) c (fun r s' => ∃ f, r = .ok f ∧ Q f s') s) (hnb : h ≠ some byPass := by intro x; cases x) :
    wpC M A (runOwn c env h) Q s := by
  unfold runOwn
  exact C_onRaise (C_run hc hnb)
end
end Mine
end EzC
section EzC2
open PySem PySem.W PyProof.Rows PySem.Calls
namespace Mine
theorem not_held {l r : List String} {x : String} (h : (l ++ r).contains x = false) : l.contains x = false := by
  cases q : l.contains x with
  | false => rfl
  | true =>
    have : (l ++ r).contains x = true := by
      rw [List.contains_iff_mem] at q ⊢
      exact List.mem_append_left _ q
    rw [this] at h; cases h
theorem bad_lit {x : String} {args : Args} (hx : holdIds.contains x = true) (h : badC (.builtin x args) = false) : False := by
  have h' : holdIds.contains x = false := h
  rw [hx] at h'; cases h'
section
variable {M : Model} {A : Around} {s : Shared}
theorem C_exported {v : Value} {Q : Bool → Shared → Prop} (h : Q false s) : wpC M A (Builtin.Bytes.exported v) Q s := by
  intro Γ p hΓ hC
  have hall : ∀ x ∈ (Γ.code, p) :: Γ.below, badC x.1 = false := by
    intro x hx
    rcases List.mem_cons.mp hx with rfl | hx
    · exact hC.1
    · exact hC.2 x hx
  unfold Builtin.Bytes.exported
  show Q (List.any ((Γ.code, p) :: Γ.below) _) s
  refine (congrArg (fun b => Q b s) (List.any_eq_false.mpr ?_)).mpr h
  intro x hx
  have hb := hall x hx
  obtain ⟨c, q⟩ := x
  dsimp only at hb ⊢
  revert hb
  split
  all_goals first
    | exact fun _ => Bool.false_ne_true
    | (intro hb; rename_i he; obtain ⟨rfl, rfl⟩ := Prod.mk.inj he; first
        | exact (bad_lit (by decide +kernel) hb).elim
        | (rw [not_held (show holdIds.contains _ = false from hb), Bool.and_false]; exact Bool.false_ne_true))
end
end Mine
end EzC2
section EzHead
open PySem PySem.W PyProof.Rows PySem.Calls
namespace Mine
/-- from the caller's own context, which is clean -/
theorem ctx_clean : Clean ⟨.builtin "claim.caller" {}, none, none, [], none⟩ := ⟨by decide +kernel, fun _ hx => nomatch hx⟩
theorem ends_both {prog : Program} {w : World} {t : Sem Fin} {s : Shared} {R : Result → Shared → Prop} (hreg : s.asleep)
    (h : wpC (model prog w) callerA t (fun fin s' => ∃ f, fin = .done f ∧ (R (.ok f) s' ∧ leftWithCleanup s'.gens = false)) s) :
    ∃ n r s' s'', runN (denote table) prog w n s ⟨t, .builtin "claim.caller" {}, default, []⟩ = .halted (outcomeOf r) s' ∧
      schedN (denote table) prog w n (.single s ⟨t, .builtin "claim.caller" {}, default, []⟩) = .halted (outcomeOf r) s' ∧ s'.forget = s''.forget ∧ R r s'' := by
  have h0 := h ⟨.builtin "claim.caller" {}, none, none, [], none⟩ default caller_in ctx_clean
  obtain ⟨n, r, s₁, s₂, hs, hn, hfo, hR⟩ := wp_halts_full (M := model prog w) (R := R) hreg (Sem.wp_mono _ _ _ (fun fin p' s' q => by
    obtain ⟨f, rfl, hf⟩ := q
    exact hf) (fun _ _ _ q => q.elim) _ _ h0)
  exact ⟨n, r, s₂, s₁, hn, hs, hfo, hR⟩
theorem call_from {c : ClaimW} {tree : List Value → Sem Fin} {w : World} {s : Shared} {free : Addr → Prop} {gens : Prop} {kept : Heap → Prop} (hz : s.asleep) (hgens : s.gens = #[])
    (hspec : ∀ args, c.pre args = true → WData.layableAll args = true → ∀ ord : List DictEntry → List DictEntry, (∀ l, (ord l).Perm l) →
      ∃ vs s₁, layAllW c.records (classAt s.heap) w.params ord args s = some (vs, s₁) ∧
        wpC (model c.prog w) callerA (tree vs) (fun fin s' => ∃ f, fin = .done f ∧ (c.Ends s args vs s₁ (.ok f) s' ∧ s'.os = s.os ∧ AllBare s'.gens ∧ kept s'.heap)) s₁) :
    c.CallFrom (fun vs => ⟨tree vs, .builtin "claim.caller" {}, default, []⟩) w free gens kept s := by
  intro args hpre hlay ord hord
  obtain ⟨vs, s₁, hlaid, hcode⟩ := hspec args hpre hlay ord hord
  have hal := layAllW_rest _ _ _ hlaid
  obtain ⟨k, r, s', s'', hrun, hsched, hfo, hcase, hos, hkp⟩ := ends_both (prog := c.prog) (w := w) (t := tree vs) (s := s₁)
    (R := fun r s' => c.Ends s args vs s₁ r s' ∧ s'.os = s.os ∧ kept s'.heap) (Shared.asleep_of_life hal.2.2.2 hz)
    (C_mono hcode (by
      rintro fin s' ⟨f, e, h1, h2, h3, h4⟩
      exact ⟨f, e, ⟨h1, h2, h4⟩, leftWithCleanup_false_of_bare h3⟩))
  obtain ⟨eh, _, _, eo, _⟩ := Shared.forget_eq hfo
  have hcase' : c.Ends s args vs s₁ r s' := hcase.congr eh
  have hkp' : kept s'.heap := by rw [eh]; exact hkp
  rw [← eo] at hos
  have hlife : s'.heap.life = s.heap.life := (runN_life _ _ _ hrun).trans hal.2.2.2
  refine ⟨vs, s₁, hlaid, k, _, s', hsched, ?_, (fun _ i x hx => by rw [hgens] at hx; simp at hx), hkp', by rw [hlife], Shared.rest_eq hos⟩
  rcases hcase' with ⟨v, rfl, d1, d2, d3, d4, d5⟩ | ⟨e, ob, cls, rfl, d1, d2, d3, d4, d5⟩
  · exact .inl ⟨v, rfl, d1, d2, d3, fun b o y _ => d4 b o y, d5⟩
  · exact .inr ⟨e, ob, cls, rfl, d1, d2, d3, d4, fun b o y _ => d5 b o y⟩

/-- what is asked of the walk -/
abbrev Walk (q : Program) (loose : List Str) (XP : (Str → Option Value) → Heap → Prop) (YP : World → Heap → Prop) (r : RowW) (d : DefRec) (kwd : List (Str × Expr)) (run : Value → List Value → Sem Value) : Prop :=
  ∀ (w : World) (s₀ s₁ : Shared) (mg mb : Str → Option Value), Ground q loose r.records XP w s₀ mg mb s₁.heap → YP w s₁.heap → ∀ (a : Addr) (o : Obj) (pm cd doc dV kV : Value), s₁.heap.get? a = some o →
    o.data = .func { docDef d.name d.params d.body d.scope pm cd doc with defaults := dV, kwdefaults := kV } → s₁.heap.CodeRec cd d.name → Dflts mg s₁.heap d.params kwd dV kV → mg d.name = some (.ref a) → s₁.gens = #[] →
    ∀ (args : List WData) (vals : List Value) (as : List Addr), r.claim.pre args = true → WData.layableAll args = true → ReadsAllW r.records (classAt s₀.heap) s₁.heap vals args as → WellAll w.params s₁.heap vals args → (∀ a ∈ as, (a == sysModules) = false) →
      wpC (model r.prog w) callerA (run (.ref a) vals) (fun v s' => GoodWG r.claim (classAt s₀.heap) (ExcName.means s₀.heap) args s₁ (.ok (.ret v)) s') s₁

theorem PySem.W.holds_open {r : OpenRow} {q : Program} {loose : List Str} {Xt : Shared → Bool} {XP : (Str → Option Value) → Heap → Prop} {α : Type} {Yf : Shared → α} {Ya : World → α} {YP : World → Heap → Prop} {d : DefRec} {kwd : List (Str × Expr)} {N : Nat}
    (left : LeftO r.prog q loose Xt Yf Ya N) (hY : ∀ w s, Yf s = Ya w → YP w s.heap) (hYk : ∀ w h h', YP w h → (∀ b o, h.get? b = some o → h'.get? b = some o) → YP w h')
    (hX : ∀ s, Xt s = true → XP (s.heap.nsMap mainGlobals) s.heap) (hXk : ∀ mg h h', XP mg h → (∀ b o, h.get? b = some o → h'.get? b = some o) → XP mg h')
    (hdef : defOf q r.name = some (d, kwd)) (hp : r.prog.theDef r.name = some (d.params, d.body, d.scope)) (hk : kwWritten? d.params.kwonlyargs d.params.kw_defaults = some kwd) (hRf : ∀ s, Xt s = true → RecFacts r.records s.heap) (hwr : (!r.writes || r.records.isEmpty) = true)
    (k1 : r.wellSaid = true) (ok : (chainsOk q && opensWell r.prog && (frees r.toRowW && r.within.isEmpty)) = true) (hb : r.prog.bare) (hw : r.toRowW.promised)
    (call : Walk q loose XP YP r.toRowW d kwd fun f vs => PySem.call f vs) : r.Holds := by
  refine ⟨k1, hw, ?_⟩
  obtain ⟨ok, k5⟩ := Bool.and_eq_true_iff.mp ok
  obtain ⟨hch, o1⟩ := Bool.and_eq_true_iff.mp ok
  obtain ⟨k5, k6⟩ := Bool.and_eq_true_iff.mp k5
  obtain ⟨hsame, hu, ha, hap, hm⟩ := frees_parts k5
  refine ⟨⟨hb, o1, by show r.makers.map _ = []; rw [hm]; rfl⟩, hw.witness, fun w => ⟨(left.behind hX hch w).1, fun s' hs' => ?_⟩⟩
  obtain ⟨s₀, hf, hg0, s, hT, hz, hgens, hg, G00, y⟩ := (left.behind (XP := fun mg h => XP mg h ∧ RecFacts r.records h) (fun s hs => ⟨hX s hs, hRf s hs⟩) hch w).2 s' hs'
  have G0 : Ground q loose [] XP w s (s.heap.nsMap mainGlobals) (s.heap.nsMap builtinsNs) s.heap := ⟨G00.T, G00.B, G00.D, G00.TE, G00.TD, G00.W, G00.X.1, G00.cls, G00.has, G00.apart, G00.once, G00.K⟩
  have RF := G00.X.2
  have hT' := hT
  have pin : ∀ n ∈ (if r.pinned then [r.name] else []), isTheDefsW r.prog s.heap n := fun n hn => by
    obtain rfl : n = r.name := by split at hn <;> simp_all
    exact pinned_of_view hg G0 hdef hp hk
  refine ⟨s₀, hf, hg0, s, hT, pin, RF.1, RF.2.1, ?_⟩
  have hgens : s.gens = #[] := Array.eq_empty_of_size_eq_zero (beq_iff_eq.mp hgens)
  have G : Ground q loose r.records XP w s _ _ s.heap := RF.ground G0
  refine call_from (c := r.claim) (tree := fun vs => do match ← nsGet mainNs r.name with
      | some f => do ret (← PySem.call f vs)
      | none => unsupported "claim.caller:no-such-global") hz hgens fun args hpre hlay ord hord => ?_
  obtain ⟨⟨vs, s₁⟩, hlaid⟩ := Option.isSome_iff_exists.mp (layAllW_isSome (P := w.params) (ord := ord) G.has args r.args s (pre_splitW hpre).1)
  have keeps := layAllW_keeps _ _ _ hlaid
  have hal := layAllW_rest _ _ _ hlaid
  obtain ⟨as, hrd, hin, hold⟩ := reads_layAllW hord _ _ _ hlaid hlay s₁.heap (fun _ _ e => e)
  have L : Laid r.records w s s₁ args vs as := ⟨⟨ord, hord, hlaid⟩, hrd, hin, hold, keeps, hal.1.trans hgens, hal.2.2.1⟩
  have G₁ := G.keeps hXk keeps
  obtain ⟨a, o, pm, cd, doc, dV, kV, h1, h2, h3, h4, h5⟩ := G₁.fn hdef
  have h := call w s s₁ _ _ G₁ (hYk _ _ _ (hY w s y) keeps) a o pm cd doc dV kV h2 h3 h4 h5 (defOf_name hdef ▸ h1) L.gens args vs as hpre hlay L.reads L.well (L.low G.low)
  have hi := ident_freeW hu ha hap
  have hwi : r.claim.within = [] := List.isEmpty_iff.mp k6
  refine ⟨vs, s₁, hlaid, C_bindK (wpAny_nsGet G₁.T.g ?_)⟩
  rw [h1]
  refine C_bind (C_mono h fun v s' g => C_pure ?_)
  have z := g.laid (c := r.claim) hsame hwi hi L
  exact ⟨_, rfl, z.1, z.2.1, z.2.2, fun q => ⟨namesKept_of hT' hg _ keeps g.2.1.old, noTable hwr q⟩⟩
end Mine
end EzHead
section EzFrag
open PySem PySem.W PyProof.Rows
namespace Mine
set_option maxRecDepth 100000
set_option maxHeartbeats 8000000
local macro_rules | `(tactic| o_head $_) => `(tactic| assumption)
/-- lays the written part of the heap as a constant, frag.heap_1; says nothing by itself -/
theorem frag (h : PySem.Challenge.rw_ez0337_01.row.Holds) : PySem.Challenge.rw_ez0337_01.row.Holds := by k_head
end Mine
end EzFrag
section EzLib
open PySem PySem.W PyProof.Rows PySem.Calls
namespace Mine
/-- the surroundings of a call, spelt out -/
abbrev Ar (dp un : Nat) (gd : Option (List Code)) (outer : List Env) : Around := { handled := none, depth := dp, frames := some outer, guards := gd, units := un }

section
variable {prog : Program} {w : World} {A : Around} {s : Shared} {R : Result → Shared → Prop}
theorem codeC_func {body : List Stmt} {env : Env} (h : wpC (model prog w) (A.deeper env) (execs body env) (fun f s' => R (.ok (.ret (match f with | .ret v => v | _ => .none))) s') s) :
    codeC (model prog w) A (.func body env) R s := by
  refine codeC_tree rfl ?_
  show wpC _ (A.deeper env) (do point; match ← (execs body env).onRaise (leaving env) with | .ret v => ret v | _ => ret .none) _ s
  refine C_bind (C_point (C_bind (C_onRaise (C_mono h fun f s' h' => ?_))))
  cases f <;> exact C_pure h'
theorem codeC_block {body : List Stmt} {env : Env} (h : wpC (model prog w) A (execs body env) (fun f s' => R (.ok f) s') s) :
    codeC (model prog w) A (.block body env) R s := by
  refine codeC_tree rfl ?_
  rw [Around.under_of_weight rfl]
  show wpC _ A (do return PySem.Fin.done (← (execs body env).onRaise (fun x => do noteFrame x env; theTreesLotGoes x))) _ s
  exact C_bind (C_onRaise (C_mono h fun f s' h' => C_pure h'))
theorem codeC_call_def {a : Addr} {o : Obj} {fd : FuncData} {body : List Stmt} {args : Args} {binds : List (Str × Value)}
    (hroom : A.depth < recursionLimit) (ho : s.heap.get? a = some o) (hdata : o.data = .func fd) (hlim : s.heap.NoLimit) (hcd : s.heap.CodeRec fd.code fd.qualname)
    (hbody : fd.body = .stmts body) (hbind : BindsTo s fd args binds)
    (hcell : ∀ x ∈ fd.scope.names, x.2 ≠ .cell) (hloc : ∀ x ∈ binds, fd.scope.names.lookup x.1 = some .local)
    (h : ∀ h₀, h₀.Ns s.heap.objs.size (fun x => binds.reverse.lookup x) → (∀ b o, s.heap.get? b = some o → h₀.get? b = some o) →
      wpC (model prog w) (A.deeper (callEnv fd s.heap.objs.size a)) (execs body (callEnv fd s.heap.objs.size a)) (fun f s' => R (.ok (.ret (match f with | .ret v => v | _ => .none))) s')
        { s with heap := h₀, toks := s.toks + binds.length })
    (hco : fd.scope.isCoroutine = false := by rfl) (hgen : fd.scope.isGenerator = false := by rfl) (hk : fd.scope.kind = .function := by rfl) :
    codeC (model prog w) A (.call (.ref a) args) R s := by
  refine codeC_tree rfl (C_of ?_)
  show wpAny _ A.in1 (callAny (.ref a) args) _ _ s
  simp only [callAny]
  refine wpAny_bind (wpAny_load ho ?_)
  obtain ⟨c, oc, vs, tq, hc, hoc, hdc, hq⟩ := id hcd
  simp only [hdata, callFunction, hco, hgen, hbody, hc]
  refine wpAny_bind (m := field (.ref c) 1) (wpAny_field hoc hdc hq (wpAny_bind (wpAny_pure ?_)))
  refine wpAny_bind (hbind _ _ _ _ ?_)
  have hc' : fd.code = .ref c := hc
  rw [← hc']
  refine wpAny_bind (wpAny_newFunctionEnv hcell hloc (fun h₀ hns₀ hsb₀ => ?_) hk)
  refine wpAny_bind (wpAny_enterFrame (hlim.fresh _ hsb₀) hroom (wpAny_pure ⟨rfl, ?_⟩))
  exact codeC_func (h h₀ hns₀ fun b o e => hsb₀.extBut b o (Nat.ne_of_lt (Heap.lt_size e)) (Heap.get?_push_of_some _ e))
end

/-- what a call of a def of the text does: it hands back v, keeps all of g (the heap less what it may turn, W), and Post holds of v and the new heap -/
def Does (K : Frag) (prog : Program) (w : World) (p : Program) (loose : List Str) (mean : ExcName → Option Value) (mg mb : Str → Option Value) (n : Nat) (f : Addr) (args : List Value) (kw : List (Str × Value)) (W : List (Addr × Obj)) (Pre : Heap → Prop) (Post : Heap → Value → Heap → Prop) : Prop :=
  ∀ (dp un : Nat) (gd : Option (List Code)) (outer : List Env) (base g : Heap) (A₀ : Around) (s : Shared) (R : Result → Shared → Prop),
    Below A₀ base outer g → g.StaysIn s.heap → K.In g → Top p loose mean mg mb g → (∀ q ∈ W, s.heap.get? q.1 = some q.2 ∧ g.get? q.1 = none) → g.objs.size ≤ s.heap.objs.size → Pre g →
    dp + n < recursionLimit → un + 8 * n < cLine →
    (∀ v h' t', g.StaysIn h' → Post g v h' → R (.ok (.ret v)) { s with heap := h', toks := t' }) →
    codeAny (model prog w) (Ar dp un gd outer) (.call (.ref f) ⟨args, kw⟩) R s
/-- the same over clean contexts -/
def DoesC (K : Frag) (prog : Program) (w : World) (p : Program) (loose : List Str) (mean : ExcName → Option Value) (mg mb : Str → Option Value) (n : Nat) (f : Addr) (args : List Value) (kw : List (Str × Value)) (W : List (Addr × Obj)) (Pre : Heap → Prop) (Post : Heap → Value → Heap → Prop) : Prop :=
  ∀ (dp un : Nat) (gd : Option (List Code)) (outer : List Env) (base g : Heap) (A₀ : Around) (s : Shared) (R : Result → Shared → Prop),
    Below A₀ base outer g → g.StaysIn s.heap → K.In g → Top p loose mean mg mb g → (∀ q ∈ W, s.heap.get? q.1 = some q.2 ∧ g.get? q.1 = none) → g.objs.size ≤ s.heap.objs.size → Pre g →
    dp + n < recursionLimit → un + 8 * n < cLine →
    (∀ v h' t', g.StaysIn h' → Post g v h' → R (.ok (.ret v)) { s with heap := h', toks := t' }) →
    codeC (model prog w) (Ar dp un gd outer) (.call (.ref f) ⟨args, kw⟩) R s

section
variable {K : Frag} {prog : Program} {w : World} {p : Program} {loose : List Str} {mean : ExcName → Option Value} {mg mb : Str → Option Value} {n : Nat} {f : Addr} {args : List Value} {kw : List (Str × Value)} {W : List (Addr × Obj)} {Pre : Heap → Prop} {Post : Heap → Value → Heap → Prop}
  {dp un : Nat} {gd : Option (List Code)} {outer : List Env} {base g : Heap} {A₀ : Around} {s : Shared} {R : Result → Shared → Prop}

/-- into the def -/
theorem enter {name qual : Str} {params : Arguments} {body : List Stmt} {scope : Scope} {dV kV doc pm cdv ct oc : Value} {an od : Option Addr} {osl : Array (Option Value)} {binds : List (Str × Value)}
    (st : g.StaysIn s.heap) (X : K.In g) (T : Top p loose mean mg mb g) (hW : ∀ q ∈ W, s.heap.get? q.1 = some q.2 ∧ g.get? q.1 = none) (hsz : g.objs.size ≤ s.heap.objs.size)
    (ho : K.lookup f = some ⟨oc, od, .func (fnOf name qual params body scope dV kV doc pm an cdv ct), osl⟩) (hcd : codeIn K cdv qual = true) (hroom : dp < recursionLimit)
    (hbind : BindsTo s (fnOf name qual params body scope dV kV doc pm an cdv ct) ⟨args, kw⟩ binds) (hloc : ∀ y ∈ binds, scope.names.lookup y.1 = some .local)
    (h : ∀ L' h₁, Fr g L' h₁ (fun y => binds.reverse.lookup y) → News g L' h₁ W → (∀ q ∈ W, @LT.lt Nat _ q.1 L') →
      wpAny (model prog w) ((Ar dp un gd outer).deeper (envOf qual scope L' f cdv)) (execs body (envOf qual scope L' f cdv))
        (fun fl s' => R (.ok (.ret (match fl with | .ret v => v | _ => .none))) s') (fun _ _ => False)
        { s with heap := h₁, toks := s.toks + binds.length })
    (hco : scope.isCoroutine = false) (hgen : scope.isGenerator = false) (hk : scope.kind = .function)
    (hcell : ∀ x ∈ scope.names, x.2 ≠ .cell) : codeAny (model prog w) (Ar dp un gd outer) (.call (.ref f) ⟨args, kw⟩) R s := by
  refine codeAny_call_def (fd := fnOf name qual params body scope dV kV doc pm an cdv ct) (body := body) (binds := binds) hroom (st _ _ (X _ _ ho)) rfl (T.nolimit.keeps st) (codeRec_of (X.keeps st) hcd) rfl hbind hcell hloc (fun h₁ hns hk₁ => ?_) hco hgen hk
  refine wpAny_mono (h s.heap.objs.size h₁ ⟨hns, fun b o e => hk₁ b o (st b o e), hsz⟩ (fun q hq => ⟨hk₁ _ _ (hW q hq).1, Nat.ne_of_lt (Heap.lt_size (hW q hq).1), (hW q hq).2⟩) fun q hq => Heap.lt_size (hW q hq).1) (fun fl s' y => y) fun _ _ y => y.elim
theorem enterC {name qual : Str} {params : Arguments} {body : List Stmt} {scope : Scope} {dV kV doc pm cdv ct oc : Value} {an od : Option Addr} {osl : Array (Option Value)} {binds : List (Str × Value)}
    (st : g.StaysIn s.heap) (X : K.In g) (T : Top p loose mean mg mb g) (hW : ∀ q ∈ W, s.heap.get? q.1 = some q.2 ∧ g.get? q.1 = none) (hsz : g.objs.size ≤ s.heap.objs.size)
    (ho : K.lookup f = some ⟨oc, od, .func (fnOf name qual params body scope dV kV doc pm an cdv ct), osl⟩) (hcd : codeIn K cdv qual = true) (hroom : dp < recursionLimit)
    (hbind : BindsTo s (fnOf name qual params body scope dV kV doc pm an cdv ct) ⟨args, kw⟩ binds) (hloc : ∀ y ∈ binds, scope.names.lookup y.1 = some .local)
    (h : ∀ L' h₁, Fr g L' h₁ (fun y => binds.reverse.lookup y) → News g L' h₁ W → (∀ q ∈ W, @LT.lt Nat _ q.1 L') →
      wpC (model prog w) ((Ar dp un gd outer).deeper (envOf qual scope L' f cdv)) (execs body (envOf qual scope L' f cdv))
        (fun fl s' => R (.ok (.ret (match fl with | .ret v => v | _ => .none))) s')
        { s with heap := h₁, toks := s.toks + binds.length })
    (hco : scope.isCoroutine = false) (hgen : scope.isGenerator = false) (hk : scope.kind = .function)
    (hcell : ∀ x ∈ scope.names, x.2 ≠ .cell) : codeC (model prog w) (Ar dp un gd outer) (.call (.ref f) ⟨args, kw⟩) R s := by
  refine codeC_call_def (fd := fnOf name qual params body scope dV kV doc pm an cdv ct) (body := body) (binds := binds) hroom (st _ _ (X _ _ ho)) rfl (T.nolimit.keeps st) (codeRec_of (X.keeps st) hcd) rfl hbind hcell hloc (fun h₁ hns hk₁ => ?_) hco hgen hk
  exact h s.heap.objs.size h₁ ⟨hns, fun b o e => hk₁ b o (st b o e), hsz⟩ (fun q hq => ⟨hk₁ _ _ (hW q hq).1, Nat.ne_of_lt (Heap.lt_size (hW q hq).1), (hW q hq).2⟩) fun q hq => Heap.lt_size (hW q hq).1

/-- what stands behind a call, for the one who called -/
def Back (K : Frag) (h₀ : Heap) (L : Addr) (m : Str → Option Value) (W keepL : List (Addr × Obj)) (Post : Heap → Value → Heap → Prop) (Q : Value → Shared → Prop) (s : Shared) : Prop :=
  ∀ v h' t' g, Fr h₀ L h' m → News h₀ L h' keepL → h₀.StaysIn g → (∀ q ∈ keepL, g.get? q.1 = some q.2) → g.StaysIn h' → Post g v h' →
      (∀ W', (∀ q ∈ W', h'.get? q.1 = some q.2 ∧ (q.1 ∈ W.map (·.1) ∨ g.get? q.1 = none)) → News h₀ L h' W') → Q v { s with heap := h', toks := t' }

theorem use_parts {cn : Str} {cs : Scope} {L a : Addr} {ccd : Value} {cl : List (Str × Addr)} {m : Str → Option Value} {h₀ : Heap} {news keepL : List (Addr × Obj)} {Q : Value → Shared → Prop}
    (B : Below A₀ base outer h₀) (F : Fr h₀ L s.heap m) (X : K.In h₀) (N : News h₀ L s.heap news) (T : Top p loose mean mg mb h₀) (hk : cs.kind = .function)
    (hW : ∀ q ∈ W, q ∈ news) (hKeep : ∀ q ∈ keepL, q ∈ news ∧ q.1 ∉ W.map (·.1)) (hPre : ∀ g : Heap, h₀.StaysIn g → (∀ q ∈ keepL, g.get? q.1 = some q.2) → Pre g)
    (k : Back K h₀ L m W keepL Post Q s) :
    ∃ (g : Heap), Below (Ar dp un gd (envX cn cs L a ccd cl :: outer)) base (envX cn cs L a ccd cl :: outer) g ∧ g.StaysIn s.heap ∧ K.In g ∧ Top p loose mean mg mb g ∧ (∀ q ∈ W, s.heap.get? q.1 = some q.2 ∧ g.get? q.1 = none) ∧ g.objs.size ≤ s.heap.objs.size ∧ Pre g ∧
      ∀ v h' t', g.StaysIn h' → Post g v h' → Q v { s with heap := h', toks := t' } := by
  have N1 : News h₀ L s.heap W := fun q hq => N q (hW q hq)
  obtain ⟨FG, BG, st, _⟩ := groundX (A := Ar dp un gd (envX cn cs L a ccd cl :: outer)) (env := envX cn cs L a ccd cl) (R := fun _ _ => True) B F N1 rfl rfl hk
  refine ⟨hideAll s.heap (W.map (·.1)), BG, fun b o e => of_hideAll _ e, X.keeps fun b o e => st b o e, T.keeps fun b o e => st b o e, fun q hq => ⟨(N1 q hq).1, hideAll_none _ (List.mem_map_of_mem hq)⟩, Nat.le_of_eq (hideAll_size _ _), hPre _ st fun q hq => hideAll_get _ (N q (hKeep q hq).1).1 (hKeep q hq).2, fun v h' t' st' hp => ?_⟩
  obtain ⟨oL, es, ep, hL, hLd, hLk, hLf⟩ := F.ns
  have nL : L ∉ W.map (·.1) := fun q => by
    obtain ⟨y, hy, e⟩ := List.mem_map.mp q
    exact (N1 y hy).2.1 e
  have hLg := hideAll_get (W.map (·.1)) hL nL
  refine k v h' t' (hideAll s.heap (W.map (·.1))) ⟨⟨oL, es, ep, st' L oL hLg, hLd, hLk, hLf⟩, fun b o e => st' b o (st b o e), F.above⟩ (fun q hq => ?_) st (fun q hq => hideAll_get _ (N q (hKeep q hq).1).1 (hKeep q hq).2) st' hp fun W' hW' q hq => ?_
  · have z := N q (hKeep q hq).1
    exact ⟨st' _ _ (hideAll_get _ z.1 (hKeep q hq).2), z.2⟩
  · obtain ⟨h1, h2⟩ := hW' q hq
    refine ⟨h1, ?_⟩
    have gn : (hideAll s.heap (W.map (·.1))).get? q.1 = none := h2.elim (hideAll_none _) id
    refine ⟨fun e => ?_, ?_⟩
    · rw [e, hLg] at gn; cases gn
    · cases z : h₀.get? q.1 with
      | none => rfl
      | some o => rw [st _ _ z] at gn; cases gn

/-- at a call, in a walk -/
theorem use (C : Does K prog w p loose mean mg mb n f args kw W Pre Post) {cn : Str} {cs : Scope} {L a : Addr} {ccd : Value} {cl : List (Str × Addr)} {m : Str → Option Value} {h₀ : Heap} {news keepL : List (Addr × Obj)} {Q E : Value → Shared → Prop}
    (B : Below A₀ base outer h₀) (F : Fr h₀ L s.heap m) (X : K.In h₀) (N : News h₀ L s.heap news) (T : Top p loose mean mg mb h₀) (hk : cs.kind = .function)
    (hW : ∀ q ∈ W, q ∈ news) (hKeep : ∀ q ∈ keepL, q ∈ news ∧ q.1 ∉ W.map (·.1)) (hPre : ∀ g : Heap, h₀.StaysIn g → (∀ q ∈ keepL, g.get? q.1 = some q.2) → Pre g)
    (hd : dp + n < recursionLimit) (hu : un + 8 * n < cLine) (k : Back K h₀ L m W keepL Post Q s) :
    wpAny (model prog w) (Ar dp un gd (envX cn cs L a ccd cl :: outer)) (call (.ref f) args kw) Q E s := by
  obtain ⟨g, BG, st, XG, TG, hWG, hsz, hp, kk⟩ := use_parts (dp := dp) (un := un) (gd := gd) (cn := cn) (a := a) (ccd := ccd) (cl := cl) B F X N T hk hW hKeep hPre k
  exact wpAny_call (C dp un gd _ base g _ s _ BG st XG TG hWG hsz hp hd hu kk)
theorem useC (C : DoesC K prog w p loose mean mg mb n f args kw W Pre Post) {cn : Str} {cs : Scope} {L a : Addr} {ccd : Value} {cl : List (Str × Addr)} {m : Str → Option Value} {h₀ : Heap} {news keepL : List (Addr × Obj)} {Q : Value → Shared → Prop}
    (B : Below A₀ base outer h₀) (F : Fr h₀ L s.heap m) (X : K.In h₀) (N : News h₀ L s.heap news) (T : Top p loose mean mg mb h₀) (hk : cs.kind = .function)
    (hW : ∀ q ∈ W, q ∈ news) (hKeep : ∀ q ∈ keepL, q ∈ news ∧ q.1 ∉ W.map (·.1)) (hPre : ∀ g : Heap, h₀.StaysIn g → (∀ q ∈ keepL, g.get? q.1 = some q.2) → Pre g)
    (hd : dp + n < recursionLimit) (hu : un + 8 * n < cLine) (k : Back K h₀ L m W keepL Post Q s) :
    wpC (model prog w) (Ar dp un gd (envX cn cs L a ccd cl :: outer)) (call (.ref f) args kw) Q s := by
  obtain ⟨g, BG, st, XG, TG, hWG, hsz, hp, kk⟩ := use_parts (dp := dp) (un := un) (gd := gd) (cn := cn) (a := a) (ccd := ccd) (cl := cl) B F X N T hk hW hKeep hPre k
  exact C_call (C dp un gd _ base g _ s _ BG st XG TG hWG hsz hp hd hu fun v h' t' q1 q2 => ⟨v, rfl, kk v h' t' q1 q2⟩)
end
end Mine
end EzLib
section EzBA
open PySem PySem.W PySem.W.X PyProof.Rows PySem.Calls
namespace Mine
set_option maxRecDepth 100000
set_option maxHeartbeats 8000000
abbrev baObj (b : Array UInt8) : Obj := { cls := .type "bytearray", data := .bytearray b 0 }
abbrev Ax (dp un : Nat) (gd : Option (List Code)) (fr : Option (List Env)) : Around := { handled := none, depth := dp, frames := fr, guards := gd, units := un }
section
local macro_rules | `(tactic| k_in) => `(tactic| first | k_in_fast | exact Frag.In.keeps (by k_asm) (Fr.keep (by k_asm)))
local macro_rules | `(tactic| x_close) => `(tactic| (first | (exfalso; omega) | (solve_by_elim (maxDepth := 3))))
variable {prog : Program} {w : World} {dp un : Nat} {gd : Option (List Code)} {fr : Option (List Env)} {E Q : Value → Shared → Prop} {s : Shared} {a : Addr} {buf : Array UInt8}
theorem ba_len (ho : s.heap.get? a = some ⟨.type "bytearray", none, .bytearray buf 0, #[]⟩) (hb : buf.size < 1000000) (hQ : ∀ t tk, Q (.int buf.size t) ⟨s.heap, s.gens, s.drawn, tk, s.os⟩) :
    wpAny (model prog w) (Ax dp un gd fr) (call (.builtin "len") [.ref a]) Q E s := by
  x_run
theorem ba_bytes (ho : s.heap.get? a = some ⟨.type "bytearray", none, .bytearray buf 0, #[]⟩) (hb : buf.size < 1000000) (hQ : ∀ t tk, Q (.bytes buf t) ⟨s.heap, s.gens, s.drawn, tk, s.os⟩) :
    wpAny (model prog w) (Ax dp un gd fr) (call (.type "bytes") [.ref a]) Q E s := by
  x_run
end
theorem slot_ba_getitem : Slot "bytearray" "__getitem__" "bytearray.__getitem__" :=
  .of (owner := "bytearray") (n := "__getitem__") (by rw [typeLookup_type, builtinLookup_eq_fast]; kernel_rfl) (by decide +kernel) (by decide +kernel) (by decide +kernel)
    (by first | exact .inl (by decide +kernel) | exact .inr (by decide +kernel)) (by rw [isSubtype_type]; kernel_rfl)
theorem entry_ba_getitem : entryFor table "bytearray.__getitem__" = some Builtin.«bytearray.__getitem__» := entryFor_of_tree (by kernel_rfl)
theorem args_ba_getitem (a b : Value) : argsOk "bytearray.__getitem__" ⟨[a, b], []⟩ := by unfold argsOk; kernel_rfl
theorem ba_typeIs {s : Shared} {a : Addr} {buf : Array UInt8} (ho : s.heap.get? a = some (baObj buf)) : s.TypeIs (.ref a) "bytearray" := ⟨_, ho, rfl⟩
theorem C_pureP {α : Type} {M : Model} {A : Around} {E : Value → Shared → Prop} {s : Shared} {a : α} {Q : α → Shared → Prop} (h : Q a s) : wpAny M A (Sem.pure a) Q E s := wpAny_pure h
section
variable {prog : Program} {w : World} {A : Around} {E : Value → Shared → Prop} {s : Shared} {a : Addr} {buf : Array UInt8}
theorem ba_payload {Q : Array UInt8 → Shared → Prop} (ho : s.heap.get? a = some (baObj buf)) (h : Q buf s) : wpAny (model prog w) A (Builtin.Bytes.payload (.ref a)) Q E s := by
  unfold Builtin.Bytes.payload Builtin.Bytes.payload?
  refine wpAny_bind (wpAny_bind (wpAny_load ho ?_))
  exact wpAny_pure (wpAny_pure h)
open Builtin in
theorem meets_ba_slice (al : Addr) {l u : Value} {lo hi : Option Int} (hl : IsPart l lo) (hu : IsPart u hi) :
    Meets («bytearray.__getitem__» ⟨[.ref a, .ref al], []⟩) (fun _ R s => s.heap.IsSliceOf al l u .none ∧ s.heap.get? a = some (baObj buf) ∧ buf.size ≤ sizeLine ∧
      R (.ok (.ret (.ref s.heap.objs.size))) { s with heap := s.heap.push (baObj (KBy.picked buf lo hi)) }) := by
  refine .of_wp fun prog w A R s hS => ?_
  obtain ⟨⟨o, ho, hc, hd⟩, hb, hsz, h⟩ := hS
  have hT : s.TypeIs (.ref al) "slice" := ⟨o, ho, hc⟩
  show wpAny _ _ (Bytes.subscript? (.ref al) >>= fun r => _) _ _ s
  refine wpAny_bind ?_
  unfold Bytes.subscript?
  refine wpAny_bind (wpAny_specialOf hT slice_no_index (wpAny_pure ?_))
  refine wpAny_bind (wpAny_typeOf hT ?_)
  show wpAny _ _ (Bytes.sliceParts (.ref al) >>= fun r => _) _ _ s
  refine wpAny_bind ?_
  unfold Bytes.sliceParts
  refine wpAny_bind (wpAny_field (x := .none) ho hd rfl ?_)
  kby_none
  refine wpAny_ite (KBy.ite_no (show ¬ ((Value.none == rawInt 0) = true) from Bool.false_ne_true) ?_)
  refine wpAny_bind (wpAny_field (x := l) ho hd rfl ?_)
  have go : wpAny (model prog w) A.in1 (sliceIndices (rawPart lo) (rawPart hi) (rawPart none) buf.size) (fun r s' => r = sliceBounds lo hi none buf.size ∧ s' = s) (fun _ _ => False) s :=
    wpAny_of_eq (sliceIndices_raw lo hi none buf.size (fun e => nomatch e)) ⟨rfl, rfl⟩
  have hz : (KBy.picked buf lo hi).size ≤ sizeLine := Nat.le_trans (KBc.size_picked_le _ _ _) hsz
  cases hl <;> cases hu <;> (first
    | (kby_none; (refine wpAny_bind (wpAny_field (x := .none) ho hd rfl ?_)); kby_none)
    | (kby_none; (refine wpAny_bind (wpAny_field (x := .int _ _) ho hd rfl ?_)); kby_int)
    | (kby_int; (refine wpAny_bind (wpAny_field (x := .none) ho hd rfl ?_)); kby_none)
    | (kby_int; (refine wpAny_bind (wpAny_field (x := .int _ _) ho hd rfl ?_)); kby_int)) <;> refine wpAny_pure ?_
  all_goals
    refine wpAny_bind (ba_payload hb ?_)
    refine wpAny_bind (wpAny_mono go (fun r s' hr => ?_) fun _ _ e => e.elim)
    obtain ⟨hr1, hr2⟩ := hr
    subst hr1 hr2
    unfold Bytes.newBytearray
    refine wpAny_bind (wpAny_newObj_type ?_ hz)
    exact wpAny_pure ⟨_, rfl, h⟩
end
section
variable {prog : Program} {w : World} {A : Around} {E : Value → Shared → Prop} {s : Shared} {value slice : PySem.Expr} {a : Addr} {buf : Array UInt8} {h₀ : Heap} {L : Addr} {m : PySem.Str → Option Value} {news : List (Addr × Obj)} {l u : Value} {lo hi : Option Int} {Q : Value → Shared → Prop}
theorem ba_slice_K (hF : Fr h₀ L s.heap m) (hN : News h₀ L s.heap news) (hm : (a, baObj buf) ∈ news) (hl : IsPart l lo) (hu : IsPart u hi) (hsz : buf.size ≤ 16777216)
    (h : ∀ x h', Fr h₀ L h' m → News h₀ L h' ((x, baObj (KBy.picked buf lo hi)) :: news) → (∀ p ∈ news, p.1 < x) → Q (.ref x) { s with heap := h' })
    (hs : subscripted slice false (.ref a) (.ref s.heap.objs.size) = operate [.ref s.heap.objs.size, .ref a] (getItem (.ref a) (.ref s.heap.objs.size)) := by with_unfolding_all rfl)
    (ht : ∀ r, letTemporaryGo value (.ref a) r = pure () := by intro _; with_unfolding_all rfl) :
    wpAny (model prog w) A (subscriptTail value slice (.ref a) (.ref s.heap.objs.size)) Q E { s with heap := s.heap.push { cls := .type "slice", data := .fields #[l, u, .none] } } := by
  have hb := hN.get hm
  have hb' : (s.heap.push { cls := .type "slice", data := .fields #[l, u, .none] }).get? a = some (baObj buf) := Heap.get?_push_of_some _ hb
  refine tail_of_ItemOn ⟨"bytearray", _, slot_ba_getitem.lookup, ba_typeIs hb', getItem_meets (ba_typeIs hb') (by decide) slot_ba_getitem entry_ba_getitem (args_ba_getitem _ _) (meets_ba_slice (buf := buf) _ hl hu)
    ⟨Heap.IsSliceOf.new _ _ _ _, hb', by rw [sizeLine_eq]; exact hsz, ?_⟩⟩ hs ht
  have F1 := hF.push { cls := .type "slice", data := .fields #[l, u, .none] }
  have N1 := News.pushKeep hN { cls := .type "slice", data := .fields #[l, u, .none] }
  exact h _ _ (F1.push _) (News.push F1 N1 _) fun p hp => Heap.lt_size (N1 p hp).1
end
end Mine
end EzBA
section EzBF
open PySem PySem.W PyProof.Rows PySem.Calls
set_option maxRecDepth 100000
set_option maxHeartbeats 4000000
namespace Mine
theorem plainAttrs_ba : PlainAttrs "bytearray" :=
  ⟨⟨"bytearray.__getattribute__", by rw [typeLookup_type, builtinLookup_eq_fast]; kernel_rfl, by decide +kernel⟩, by rw [typeLookup_type, builtinLookup_eq_fast]; kernel_rfl⟩
theorem slot_ba_find : Slot "bytearray" "find" "bytearray.find" :=
  .of (owner := "bytearray") (n := "find") (by rw [typeLookup_type, builtinLookup_eq_fast]; kernel_rfl) (by decide +kernel) (by decide +kernel) (by decide +kernel)
    (by first | exact .inl (by decide +kernel) | exact .inr (by decide +kernel)) (by rw [isSubtype_type]; kernel_rfl)
theorem type_ba_find : typeOf (.builtin "bytearray.find") = pure (.type "method_descriptor") := by show builtinType _ = _; rw [builtinType_eq_fast]; kernel_rfl
theorem entry_ba_find : entryFor table "bytearray.find" = some Builtin.«bytearray.find» := entryFor_of_tree (by kernel_rfl)
theorem args_ba_find (a b c d : Value) : argsOk "bytearray.find" ⟨[a, b, c, d], []⟩ := by unfold argsOk; kernel_rfl
/-- what find tells -/
def fndAt (buf : Array UInt8) (lo hi : Nat) : Int := match Builtin.Bytes.find? buf #[10] lo hi with | some i => (i : Int) | none => -1
section
variable {prog : Program} {w : World} {A : Around} {E : Value → Shared → Prop} {s : Shared} {a : Addr} {buf : Array UInt8}
open Builtin in
theorem meets_ba_find (a : Addr) (buf : Array UInt8) (lo hi : Nat) (t t1 t2 : Tok) (h1 : lo < hi) (h2 : hi ≤ buf.size) :
    Meets («bytearray.find» ⟨[.ref a, .bytes #[10] t, .int lo t1, .int hi t2], []⟩) (fun _ R s => s.heap.get? a = some (baObj buf) ∧ R (.ok (.ret (.int (fndAt buf lo hi) s.toks))) { s with toks := s.toks + 1 }) := by
  refine .of_wp fun prog w A R s hS => ?_
  obtain ⟨ho, h⟩ := hS
  show wpAny _ _ (Bytes.searchM .bytearray "find" false false ⟨[.ref a, .bytes #[10] t, .int lo t1, .int hi t2], []⟩) _ _ s
  unfold Bytes.searchM
  refine wpAny_bind ?_
  unfold Bytes.searchArgs
  have e0 : selfAndSome (toString (Bytes.Kind.bytearray).name ++ toString "." ++ toString "find") "find" 1 3 ⟨[.ref a, .bytes #[10] t, .int lo t1, .int hi t2], []⟩ = pure (.ref a, [.bytes #[10] t, .int lo t1, .int hi t2]) := by kernel_rfl
  refine wpAny_bind (wpAny_of_eq e0 ?_)
  have eb : ∀ (i : Int) (tk : Tok), wpAny (model prog w) A.in1 (Bytes.bound? (some (.int i tk))) (fun r s' => r = some i ∧ s' = s) (fun _ _ => False) s := by
    intro i tk
    unfold Bytes.bound?
    refine wpAny_bind (wpAny_specialOf (T := "int") (typeIs_int _ _ _) F.slot_int_index.lookup ?_)
    refine wpAny_ite (KBy.ite_no (show ¬ (Option.isNone (some _) = true) from Bool.false_ne_true) ?_)
    exact wpAny_bind (wpAny_of_eq rfl (wpAny_pure ⟨rfl, rfl⟩))
  refine wpAny_bind (wpAny_mono (eb lo t1) ?_ fun _ _ e => e.elim)
  rintro _ _ ⟨rfl, rfl⟩
  refine wpAny_bind (wpAny_mono (eb hi t2) ?_ fun _ _ e => e.elim)
  rintro _ _ ⟨rfl, rfl⟩
  dsimp only [List.headD_cons]
  refine wpAny_bind (wpAny_of_eq KBy.buffer_eq ?_)
  refine wpAny_bind (wpAny_pure ?_)
  refine wpAny_bind (ba_payload ho ?_)
  have ew : Bytes.window buf.size (some (lo : Int)) (some (hi : Int)) = ((lo : Int), (hi : Int)) := by
    unfold Bytes.window
    simp only [Option.getD_some]
    rw [if_neg (by omega), if_neg (by omega)]
    refine Prod.ext rfl ?_
    dsimp only
    omega
  rw [ew]
  dsimp only
  rw [if_neg (by simp; omega)]
  refine wpAny_pure ?_
  dsimp only [Option.bind_some, Int.toNat_natCast]
  unfold fndAt at h
  cases q : Bytes.find? buf #[10] lo hi with
  | some i =>
    rw [q] at h
    simp only [Bool.false_eq_true, if_false, q]
    exact wpAny_bind (wpAny_mkInt (wpAny_pure ⟨_, rfl, h⟩))
  | none =>
    rw [q] at h
    simp only [Bool.false_eq_true, if_false, q]
    refine wpAny_bind (wpAny_rule ?_)
    exact wpAny_bind (wpAny_mkInt (wpAny_pure ⟨_, rfl, h⟩))
end
section
variable {prog : Program} {w : World} {A : Around} {E : Value → Shared → Prop} {s : Shared} {a : Addr} {buf : Array UInt8} {h₀ : Heap} {L : Addr} {news : List (Addr × Obj)} {dp un : Nat} {gd : Option (List Code)} {fr : Option (List Env)}
theorem ba_method_K {pl : Sem Bool} {Q : Value × List Value → Shared → Prop} (N : News h₀ L s.heap news) (hm : (a, baObj buf) ∈ news) (h : Q (.builtin "bytearray.find", [.ref a]) s) : wpAny (model prog w) A (getMethod (.ref a) "find" pl) Q E s :=
  getMethod_builtin (ba_typeIs (N.get hm)) plainAttrs_ba slot_ba_find type_ba_find (fun x e => ⟨_, by cases e; exact N.get hm, rfl⟩) h
theorem ba_find_K {lo hi : Int} {t t1 t2 : Tok} {Q : Value → Shared → Prop} (N : News h₀ L s.heap news) (hm : (a, baObj buf) ∈ news) (h0 : 0 ≤ lo) (h1 : lo < hi) (h2 : hi ≤ buf.size)
    (h : ∀ tk, Q (.int (fndAt buf lo.toNat hi.toNat) tk) { s with toks := s.toks + 1 }) : wpAny (model prog w) A (call (.builtin "bytearray.find") [.ref a, .bytes #[10] t, .int lo t1, .int hi t2]) Q E s := by
  obtain ⟨n, rfl⟩ := Int.eq_ofNat_of_zero_le h0
  obtain ⟨k, rfl⟩ := Int.eq_ofNat_of_zero_le (Int.le_of_lt (Int.lt_of_le_of_lt h0 h1))
  exact call_meets slot_ba_find (ba_typeIs (N.get hm)) entry_ba_find (args_ba_find _ _ _ _) (meets_ba_find a buf n k t t1 t2 (by omega) (by omega)) ⟨N.get hm, h _⟩
theorem ba_len_K {Q : Value → Shared → Prop} (N : News h₀ L s.heap news) (hm : (a, baObj buf) ∈ news) (hb : buf.size < 1000000) (h : ∀ t tk, Q (.int buf.size t) { s with toks := tk }) :
    wpAny (model prog w) (Ax dp un gd fr) (call (.builtin "len") [.ref a]) Q E s := ba_len (N.get hm) hb h
theorem ba_bytes_K {Q : Value → Shared → Prop} (N : News h₀ L s.heap news) (hm : (a, baObj buf) ∈ news) (hb : buf.size < 1000000) (h : ∀ t tk, Q (.bytes buf t) { s with toks := tk }) :
    wpAny (model prog w) (Ax dp un gd fr) (call (.type "bytes") [.ref a]) Q E s := ba_bytes (N.get hm) hb h
end
end Mine
end EzBF
section EzCR
open PySem PySem.W PyProof.Rows PySem.Calls
set_option maxRecDepth 100000
namespace Mine
abbrev noE : Value → Shared → Prop := fun _ _ => False
section
variable {M : Model} {A : Around} {s : Shared} {env : Env}

theorem C_nil {Q : Flow → Shared → Prop} (h : Q .next s) : wpC M A (execs [] env) Q s := fun _ _ _ _ => h
/-- one statement over clean contexts, then the rest -/
theorem C_cons {st rest} {Q : Flow → Shared → Prop} (h : wpC M A (exec st env) (fun f s' => match f with | .next => wpC M A (execs rest env) Q s' | f => Q f s') s) :
    wpC M A (execs (st :: rest) env) Q s := by
  rw [execs_cons]
  refine C_bind (C_mono h fun f s' h' => ?_)
  cases f <;> first | exact h' | exact C_pure h'
/-- a statement that asks nothing of the stack, then the rest -/
theorem C_consK {st rest} {Q : Flow → Shared → Prop} (h : wpAny M A (exec st env) (fun f s' => match f with | .next => wpC M A (execs rest env) Q s' | f => Q f s') noE s) :
    wpC M A (execs (st :: rest) env) Q s := C_cons (C_of h)
theorem C_Expr {e pos} {Q : Flow → Shared → Prop} (h : wpC M A (eval e env) (fun v s' => match v with | .ref _ => False | _ => Q .next s') s)
    (hi : interactive env = false := by rfl) (hs : swapsWith e none pos.line env = pure false := by rfl) :
    wpC M A (exec (.Expr e pos) env) Q s := by
  rw [exec_Expr env e pos hi hs]
  refine C_bind (C_standAt (C_bind (C_mono h (fun v s' h' => ?_))))
  have hv : ∀ a, v ≠ .ref a := fun a hva => by subst hva; exact h'
  rw [dropValue_plain hv]
  refine C_pure ?_
  cases v <;> first | exact h' | exact (hv _ rfl).elim
theorem C_Assign_Name {x pos' value pos} {Q : Flow → Shared → Prop}
    (h : wpC M A (eval value env) (fun v s₁ => wpAny M A (storeName env x v) (fun _ => Q .next) noE s₁) s)
    (hs : swapsWith value (some (.Name x pos')) pos.line env = pure false := by rfl) :
    wpC M A (exec (.Assign [.Name x pos'] value pos) env) Q s := by
  rw [exec_Assign_Name env x pos' value pos hs]
  refine C_bind (C_standAt (C_bind (C_mono h fun v s₁ h₁ => C_bind (C_standAt (C_bind (C_of (wpAny_bindName (wpAny_mono h₁ (fun _ _ q => C_pure q) fun _ _ q => q))))))))
theorem C_Assign_Attr {o attr pos' value pos} {Q : Flow → Shared → Prop}
    (h : wpC M A (eval value env) (fun v s₁ => wpAny M A (eval o env) (fun ov s₂ => wpAny M A (setAttr ov attr v) (fun _ => Q .next) noE s₂) noE s₁) s)
    (hs : swapsWith value (some (.Attribute o attr pos')) pos.line env = pure false := by rfl) :
    wpC M A (exec (.Assign [.Attribute o attr pos'] value pos) env) Q s := by
  rw [plainObj_exec_Assign_Attribute o attr pos' value pos hs]
  simp only [assign_Attribute]
  refine C_bind (C_standAt (C_bind (C_mono h fun v s₁ h₁ => C_bind (C_bind (C_holding (C_of (wpAny_mono h₁ (fun ov s₂ h₂ => ?_) fun _ _ q => q)))))))
  refine C_bind (C_standAt (C_bind (C_holding (C_of (wpAny_mono h₂ (fun _ s₃ h₃ => ?_) fun _ _ q => q)))))
  refine C_of (wpAny_mono (Q := fun _ => wpC M A (pure .next) Q) (E := noE) (wpAny_release ?_) (fun _ _ q => q) fun _ _ q => q)
  exact C_pure h₃
theorem C_If {test body orelse pos} {Q : Flow → Shared → Prop}
    (h : wpAny M A (isTrue test env (eval test env)) (fun b s₂ => if b then wpC M A (execs body env) Q s₂ else wpC M A (execs orelse env) Q s₂) noE s) :
    wpC M A (exec (.If test body orelse pos) env) Q s := by
  rw [exec_If]
  refine C_bind (C_standAt (C_bindK (wpAny_mono h (fun b s₂ h₂ => ?_) fun _ _ q => q)))
  cases b <;> exact h₂
theorem C_IfExp {test body orelse pos} {Q : Value → Shared → Prop}
    (h : wpAny M A (isTrue test env (eval test env)) (fun b s₂ => if b then wpC M A (eval body env) Q s₂ else wpC M A (eval orelse env) Q s₂) noE s) :
    wpC M A (eval (.IfExp test body orelse pos) env) Q s := by
  rw [arm_eval_IfExp]
  refine C_bindK (wpAny_mono h (fun b s₂ h₂ => ?_) fun _ _ q => q)
  cases b <;> exact h₂
theorem C_Return {e pos} {Q : Flow → Shared → Prop} (h : wpC M A (eval e env) (fun v => Q (.ret v)) s) : wpC M A (exec (.Return (some e) pos) env) Q s := by
  rw [exec_Return_some]
  exact C_bind (C_standAt (C_bind (C_mono h fun v s' h' => C_pure h')))
theorem C_Call {name : Str} {o : Expr} {apos pos : Pos} {args : List Expr} {kws : List Keyword} {pl : Sem Bool} {Q : Value → Shared → Prop}
    (h : wpAny M A (eval o env) (fun ov s₁ => wpAny M A (getMethod ov name pl) (fun fx s₂ => wpC M A (callWith pos fx.1 fx.2 (backTo pos (starEach args env)) (backToKw pos (keywordEach kws env))) Q s₂) noE s₁) noE s)
    (he : eval (.Call (.Attribute o name apos) args kws pos) env = (do
      let ov ← eval o env
      standAt apos.atName
      let (f, first) ← holding [ov] (getMethod ov name pl)
      callWith pos f first (backTo pos (starEach args env)) (backToKw pos (keywordEach kws env))) := by rfl) :
    wpC M A (eval (.Call (.Attribute o name apos) args kws pos) env) Q s := by
  rw [he]
  refine C_bindK (wpAny_mono h (fun ov s₁ h₁ => C_bind (C_standAt (C_bind (C_holding (C_of (wpAny_mono h₁ (fun fx s₂ h₂ => ?_) fun _ _ x => x)))))) fun _ _ x => x)
  exact h₂
theorem C_callWith_of {P : Heap → Prop} {pos : Pos} {f : Value} {first : List Value} {Q : Value → Shared → Prop} {args : List (Bool × Sem Value)} {keywords : List (Option Str × Sem Value)} (hplain : (args.any (·.1) || keywords.any (·.1.isNone)) = false)
    (hk : ∀ h, P h → ∃ k, (k = Keeper.frame ∨ k = Keeper.machine ∨ k = Keeper.boundFrame) ∧ Looks M h (keeperOf f) k)
    (h : wpAny M A (evalArgs f true args keywords) (fun a s₁ => P s₁.heap ∧ wpC M A (call f (first ++ a.pos) a.kw) Q s₁) noE s) : wpC M A (callWith pos f first args keywords) Q s := by
  unfold callWith
  refine C_bind (C_holding (C_of (wpAny_mono h (fun a s₁ h₁ => C_bind (C_standAt ?_)) fun _ _ x => x)))
  obtain ⟨k, hk', L⟩ := hk _ h₁.1
  simp only [hplain]
  refine C_bindK (L.here ?_)
  have tail : ∀ {t : Sem Value}, wpC M A t Q s₁ → wpC M A (t >>= fun r => holding [r] point >>= fun _ => pure r) Q s₁ :=
    fun ht => C_bind (C_mono ht (fun r s₂ hr => C_bind (C_holding (C_point (C_pure hr)))))
  have marked (mk : Value) : wpC M A (callMarked mk f (first ++ a.pos) a.kw) Q s₁ := by unfold callMarked; exact C_keep h₁.2
  rcases hk' with rfl | rfl | rfl <;> dsimp only <;> first | exact tail h₁.2 | (split <;> first | exact tail h₁.2 | exact tail (marked _))
/-- a call of a def: arguments and keywords are evaluated, the call is left -/
theorem C_callKW {K : Frag} {pos : Pos} {f : Value} {first : List Value} {Q : Value → Shared → Prop} {e : Expr} {rest : List Expr} {kws : List Keyword} (hk : keepIn K f = true) (hall : (backToKw pos (keywordEach kws env)).all (·.1.isSome) = true)
    (h : wpAny M A (spliced (backTo pos (starEach (e :: rest) env))) (fun vs s₁ => wpAny M A (evalAll ((backToKw pos (keywordEach kws env)).map (·.2)))
      (fun ks s₂ => K.In s₂.heap ∧ wpC M A (call f (first ++ vs) (((backToKw pos (keywordEach kws env)).filterMap (·.1)).zip ks)) Q s₂) noE s₁) noE s)
    (hplain : ((backTo pos (starEach (e :: rest) env)).any (·.1) || (backToKw pos (keywordEach kws env)).any (·.1.isNone)) = false := by rfl) (he : starEach (e :: rest) env = (false, eval e env) :: starEach rest env := by rfl) :
    wpC M A (callWith pos f first (backTo pos (starEach (e :: rest) env)) (backToKw pos (keywordEach kws env))) Q s :=
  C_callWith_of hplain (keeps_K hk) (evalArgs_kw2 hall h he)
theorem C_callKW0 {K : Frag} {pos : Pos} {f : Value} {first : List Value} {Q : Value → Shared → Prop} {kws : List Keyword} (hk : keepIn K f = true) (hall : (backToKw pos (keywordEach kws env)).all (·.1.isSome) = true)
    (h : wpAny M A (evalAll ((backToKw pos (keywordEach kws env)).map (·.2))) (fun ks s₂ => K.In s₂.heap ∧ wpC M A (call f (first ++ []) (((backToKw pos (keywordEach kws env)).filterMap (·.1)).zip ks)) Q s₂) noE s)
    (hplain : ((backTo pos (starEach [] env)).any (·.1) || (backToKw pos (keywordEach kws env)).any (·.1.isNone)) = false := by rfl) :
    wpC M A (callWith pos f first (backTo pos (starEach [] env)) (backToKw pos (keywordEach kws env))) Q s :=
  C_callWith_of hplain (keeps_K hk) (evalArgs_kw2_nil hall h)
theorem C_callK {K : Frag} {pos : Pos} {f : Value} {first : List Value} {Q : Value → Shared → Prop} {e : Expr} {rest : List Expr} (hk : keepIn K f = true)
    (h : wpAny M A (spliced (backTo pos (starEach (e :: rest) env))) (fun vs s₁ => K.In s₁.heap ∧ wpC M A (call f (first ++ vs)) Q s₁) noE s)
    (he : starEach (e :: rest) env = (false, eval e env) :: starEach rest env := by rfl) (hplain : (backTo pos (starEach rest env)).any (·.1) = false := by rfl) :
    wpC M A (callWith pos f first (backTo pos (starEach (e :: rest) env)) []) Q s := by
  rw [he] at h ⊢
  exact C_callWith_of (by show ((false || (backTo pos (starEach rest env)).any (·.1)) || false) = false; rw [hplain]; rfl) (keeps_K hk) (evalArgs_plain h)
theorem C_callK0 {K : Frag} {pos : Pos} {f : Value} {first : List Value} {Q : Value → Shared → Prop} (X : K.In s.heap) (hk : keepIn K f = true) (h : wpC M A (call f (first ++ [])) Q s) : wpC M A (callWith pos f first (backTo pos (starEach [] env)) []) Q s :=
  C_callWith_of rfl (keeps_K hk) (evalArgs_nil3 ⟨X, h⟩)
theorem C_Call_Name {x : Str} {p pos : Pos} {args : List Expr} {keywords : List Keyword} {Q : Value → Shared → Prop}
    (h : wpAny M A (eval (.Name x p) env) (fun f s₁ => wpC M A (callWith pos f [] (backTo pos (starEach args env)) (backToKw pos (keywordEach keywords env))) Q s₁) noE s) :
    wpC M A (eval (.Call (.Name x p) args keywords pos) env) Q s := by
  rw [arm_eval_Call_Name']
  exact C_bindK h
theorem C_callType0 {pos : Pos} {T : String} {Q : Value → Shared → Prop} (h : wpC M A (call (.type T) []) Q s) : wpC M A (callWith pos (.type T) [] (backTo pos (starEach [] env)) []) Q s := by
  unfold callWith
  refine C_bind (C_holding (C_of (evalArgs_nil3 (C_bind (C_standAt ?_)))))
  show wpC M A (pure Keeper.machine >>= _) Q s
  refine C_bind (C_pure ?_)
  exact C_bind (C_mono h fun r s₂ hr => C_bind (C_holding (C_point (C_pure hr))))
end
section
variable {prog : Program} {w : World} {A : Around} {s : Shared} {env : Env}
/-- a loop that goes on in the same code, by a measure -/
theorem codeC_loop {c : Code} {R : Result → Shared → Prop} (hb : badC c = false) (hq : c.quiet = true) (I : Nat → Shared → Prop)
    (turn : ∀ n s, I n s → wpC (model prog w) (A.under c) ((model prog w).den c) (fun fin s' => match fin with | .done f => R (.ok f) s' | .again c' => (c' = c ∧ ∃ m, m < n ∧ I m s') ∨ (c'.quiet = true ∧ codeC (model prog w) A c' R s')) s)
    (n : Nat) (h : I n s) : codeC (model prog w) A c R s := by
  induction n using Nat.strongRecOn generalizing s with
  | ind n ih =>
    refine codeC_tree hb (C_mono (turn n s h) fun fin s' h' => ?_)
    cases fin with
    | done f => exact h'
    | again c' =>
      rcases h' with ⟨rfl, m, hm, hI⟩ | h'
      · exact ⟨hq, ih m hm hI⟩
      · exact h'
theorem codeC_while {test body orelse env} {R : Result → Shared → Prop} (I : Nat → Shared → Prop)
    (turn : ∀ n s, I n s → wpAny (model prog w) A (isTrue test env (eval test env)) (fun b s₂ =>
        if b then wpC (model prog w) A (execs body env) (fun f s₃ => match f with
            | .next | .cont => ∃ m, m < n ∧ I m s₃
            | .brk => R (.ok .next) s₃
            | .ret v => R (.ok (.ret v)) s₃) s₂
        else wpC (model prog w) A (execs orelse env) (fun f s₃ => R (.ok f) s₃) s₂) noE s)
    (n : Nat) (h : I n s) : codeC (model prog w) A (.whileLoop test body orelse env) R s := by
  refine codeC_loop rfl rfl I (fun n s hI => ?_) n h
  rw [Around.under_of_weight rfl]
  show wpC _ A ((whileTurn test body orelse env).onRaise (fun x => do noteFrame x env; theTreesLotGoes x)) _ s
  refine C_onRaise ?_
  simp only [whileTurn]
  refine C_bindK (wpAny_mono (turn n s hI) (fun b s₂ h₂ => ?_) fun _ _ h' => h')
  cases b with
  | false =>
    simp only [Bool.false_eq_true, if_false] at h₂ ⊢
    exact C_bind (C_mono h₂ fun f s₃ h₃ => C_pure h₃)
  | true =>
    simp only [if_true] at h₂ ⊢
    refine C_bind (C_mono h₂ (fun f s₃ h₃ => ?_))
    cases f with
    | next => exact C_pure (.inl ⟨rfl, h₃⟩)
    | cont => exact C_pure (.inl ⟨rfl, h₃⟩)
    | brk => exact C_pure h₃
    | ret v => exact C_pure h₃
theorem C_While {test body orelse pos} {Q : Flow → Shared → Prop} (I : Nat → Shared → Prop) (n : Nat) (h : I n s)
    (turn : ∀ n s, I n s → wpAny (model prog w) A (isTrue test env (eval test env)) (fun b s₂ =>
        if b then wpC (model prog w) A (execs body env) (fun f s₃ => match f with
            | .next | .cont => ∃ m, m < n ∧ I m s₃
            | .brk => Q .next s₃
            | .ret v => Q (.ret v) s₃) s₂
        else wpC (model prog w) A (execs orelse env) Q s₂) noE s) :
    wpC (model prog w) A (exec (.While test body orelse pos) env) Q s := by
  rw [exec_While]
  refine C_bind (C_standAt (C_runOwn ?_))
  rw [mark_none]
  refine codeC_while I (fun n s hI => wpAny_mono (turn n s hI) (fun b s₂ h₂ => ?_) fun _ _ q => q) n h
  cases b with
  | false => simp only [Bool.false_eq_true, if_false] at h₂ ⊢; exact C_mono h₂ fun f _ q => ⟨f, rfl, q⟩
  | true =>
    simp only [if_true] at h₂ ⊢
    refine C_mono h₂ fun f s₃ q => ?_
    cases f <;> first | exact q | exact ⟨_, rfl, q⟩
theorem codeC_for {target it body orelse env} {R : Result → Shared → Prop} (I : Nat → Shared → Prop)
    (turn : ∀ n s, I n s → wpAny (model prog w) A (pyNext it) (fun r s₁ => match r with
      | none => wpC (model prog w) A (execs orelse env) (fun f s₃ => R (.ok f) s₃) s₁
      | some v => wpAny (model prog w) A (assign target env v) (fun _ s₂ => wpC (model prog w) A (execs body env) (fun f s₃ => match f with
          | .next | .cont => ∃ m, m < n ∧ I m s₃
          | .brk => R (.ok .next) s₃
          | .ret v => R (.ok (.ret v)) s₃) s₂) noE s₁) noE s)
    (n : Nat) (h : I n s) (ht : ∀ v, letOwnedTupleGo target it v = pure () := by intro _; rfl) : codeC (model prog w) A (.forLoop target it body orelse env) R s := by
  refine codeC_loop rfl rfl I (fun n s hI => ?_) n h
  rw [Around.under_of_weight rfl]
  show wpC _ _ ((forTurn target it body orelse env).onRaise (fun x => do noteFrame x env; theTreesLotGoes x)) _ s
  refine C_onRaise ?_
  simp only [forTurn]
  refine C_bind (C_standAt (C_bind (C_onRaise (C_of (wpAny_mono (turn n s hI) (fun r s₁ h₁ => ?_) fun _ _ h' => h')))))
  cases r with
  | none => exact C_pure (.inr ⟨rfl, by
      refine codeC_tree rfl ?_
      rw [Around.under_of_weight rfl]
      show wpC _ A (do return PySem.Fin.done (← (execs orelse env).onRaise (fun x => do noteFrame x env; theTreesLotGoes x))) _ s₁
      exact C_bind (C_onRaise (C_mono h₁ fun f s' h' => C_pure h'))⟩)
  | some v =>
    dsimp only
    rw [ht v]
    refine C_bind (C_pure ?_)
    refine C_bindK (wpAny_mono h₁ (fun _ s₂ h₂ => C_bind (C_mono h₂ (fun f s₃ h₃ => ?_))) fun _ _ h' => h')
    cases f with
    | next => exact C_pure (.inl ⟨rfl, h₃⟩)
    | cont => exact C_pure (.inl ⟨rfl, h₃⟩)
    | brk => exact C_pure h₃
    | ret v => exact C_pure h₃
theorem C_For {target iter body orelse pos} {Q : Flow → Shared → Prop}
    (h : wpAny (model prog w) A (eval iter env) (fun x s₁ => wpAny (model prog w) A (pyIter x) (fun it s₂ =>
      codeC (model prog w) A (.forLoop target it body orelse env) (fun r s' => ∃ f, r = .ok f ∧ Q f s') s₂) noE s₁) noE s)
    (hs : ∀ x, foldedSetIterable iter env x = pure x := by intro _; rfl) :
    wpC (model prog w) A (exec (.For target iter body orelse pos) env) Q s := by
  rw [exec_For]
  refine C_bind (C_standAt (C_bindK (wpAny_mono h (fun x s₁ h₁ => ?_) fun _ _ q => q)))
  rw [hs x]
  refine C_bind (C_pure (C_bind (C_standAt (C_bind (C_holding (C_of (wpAny_mono h₁ (fun it s₂ h₂ => ?_) fun _ _ q => q)))))))
  refine C_runOwn ?_
  rw [mark_none]; exact h₂
/-- try/finally where nothing is raised -/
theorem C_TryFinally {body orelse : List Stmt} {f₀ : Stmt} {fs : List Stmt} {pos : Pos} {Q : Flow → Shared → Prop}
    (h : wpC (model prog w) A (execs body env) (fun f s₁ => match f with
        | .next => wpC (model prog w) A (execs orelse env) (fun f' s₂ => wpC (model prog w) A (execs (f₀ :: fs) env) (fun g s' => match g with | .next => Q f' s' | g => Q g s') s₂) s₁
        | f => wpC (model prog w) A (execs (f₀ :: fs) env) (fun g s' => match g with | .next => Q f s' | g => Q g s') s₁) s) :
    wpC (model prog w) A (exec (.Try body [] orelse (f₀ :: fs) pos) env) Q s := by
  have plain : ∀ (f : Flow) (s₁ : Shared), wpC (model prog w) A (execs (f₀ :: fs) env) (fun g s' => match g with | .next => Q f s' | g => Q g s') s₁ →
      wpC (model prog w) A (do
        match ← holding (match f with | .ret v => [v] | _ => []) (runOwn (.block (f₀ :: fs) env) env) with
        | .next => pure f
        | f' => do rule "try.finally-overrides-flow"; pure f') Q s₁ := by
    intro f s₁ hp
    refine C_bind (C_holding (C_runOwn ?_))
    rw [mark_none]
    refine codeC_tree rfl ?_
    rw [Around.under_of_weight rfl]
    show wpC _ A (do return PySem.Fin.done (← (execs (f₀ :: fs) env).onRaise (fun x => do noteFrame x env; theTreesLotGoes x))) _ s₁
    refine C_bind (C_onRaise (C_mono hp fun g s' h' => C_pure ⟨g, rfl, ?_⟩))
    cases g <;> first | exact C_pure h' | exact C_bind (C_rule (C_pure h'))
  rw [arm_exec_Try]
  refine C_bind (C_standAt ?_)
  unfold tryStmt
  simp only [List.isEmpty_nil, if_true, List.isEmpty_cons, Bool.false_eq_true, if_false]
  refine C_bind (C_attempt ?_)
  refine C_bind (C_attempt (C_mono h (fun f s₁ h₁ => ?_)))
  cases f <;> first
    | exact C_mono h₁ (fun f' s₂ h₂ => plain f' s₂ h₂)
    | exact C_pure (plain _ _ h₁)
/-- try/except/else where nothing is raised -/
theorem C_TryExcept {body orelse : List Stmt} {h₀ : ExceptHandler} {hs : List ExceptHandler} {pos : Pos} {Q : Flow → Shared → Prop}
    (h : wpC (model prog w) A (execs body env) (fun f s₁ => match f with | .next => wpC (model prog w) A (execs orelse env) Q s₁ | f => Q f s₁) s) :
    wpC (model prog w) A (exec (.Try body (h₀ :: hs) orelse [] pos) env) Q s := by
  rw [arm_exec_Try]
  refine C_bind (C_standAt ?_)
  unfold tryStmt
  simp only [List.isEmpty_nil, if_true, List.isEmpty_cons, Bool.false_and, Bool.false_eq_true, if_false]
  refine C_bind (C_attempt (C_mono h (fun f s₁ h₁ => ?_)))
  cases f <;> first | exact h₁ | exact C_pure h₁
end
end Mine
end EzCR
section EzCM
open PySem PySem.W PyProof.Rows PySem.Calls Builtin
set_option maxRecDepth 100000
set_option maxHeartbeats 4000000
namespace Mine
section
variable {prog : Program} {w : World} {A : Around} {s : Shared} {R : Result → Shared → Prop}
theorem C_looks {α β : Type} {M : Model} {t : Sem α} {r : α} {k : α → Sem β} {Q : β → Shared → Prop} (x : Looks M s.heap t r) (h : wpC M A (k r) Q s) : wpC M A (t >>= k) Q s :=
  C_bindK (x.here h)
theorem codeC_call_builtin_at {bi : String} {args : Args} {b : PySem.Builtin} (hq : (Code.builtin bi args).quiet = true) (hbad : badC (.builtin bi args) = false) (hb : entryFor table bi = some b)
    (h : wpAny (model prog w) A.in1 (checkBuiltinCall bi args) (fun _ s₁ => wpC (model prog w) (A.under (.builtin bi args)) (b args)
      (fun fin s' => match fin with | .done f => R (.ok f) s' | .again c' => c'.quiet = true ∧ codeC (model prog w) A c' R s') s₁) noE s) : codeC (model prog w) A (.call (.builtin bi) args) R s := by
  refine codeC_tree rfl (C_of ?_)
  show wpAny _ A.in1 (do checkBuiltinCall bi args; again (.builtin bi args)) _ _ s
  refine wpAny_bind (wpAny_mono h (fun _ s₁ h₁ => wpAny_pure (And.intro hq (codeC_tree hbad ?_))) fun _ _ h' => h')
  show wpC _ _ (match entryFor table bi with | some b => b args | none => unsupported ((withoutEnding? bi "#data").getD bi)) _ s₁
  rw [hb]; exact h₁
theorem codeC_builtin {bi : String} {args : Args} {b : PySem.Builtin} (hbad : badC (.builtin bi args) = false) (hb : entryFor table bi = some b)
    (h : wpC (model prog w) (A.under (.builtin bi args)) (b args) (fun fin s' => match fin with | .done f => R (.ok f) s' | .again c' => c'.quiet = true ∧ codeC (model prog w) A c' R s') s) : codeC (model prog w) A (.builtin bi args) R s := by
  refine codeC_tree hbad ?_
  show wpC _ _ (match entryFor table bi with | some b => b args | none => unsupported ((withoutEnding? bi "#data").getD bi)) _ s
  rw [hb]; exact h
theorem mroOf_looks {M : Model} {h : Heap} {C : Addr} {oc od cd sl} (hC : h.get? C = some ⟨oc, od, .cls cd, sl⟩) : Looks M h (mroOf (.ref C)) cd.mro := ((Looks.ld (part := none) hC).andThen .now).andThen .now
/-- a class of the text's is called: what __new__ gives, then __init__ over clean contexts -/
theorem C_make {C : Addr} {rest : List Value} {kw : List (Str × Value)} {init : Value} {oc od cd sl}
    (hC : s.heap.get? C = some ⟨oc, od, .cls cd, sl⟩) (hm : cd.mro.isEmpty = false)
    (call₁ : Looks (model prog w) s.heap (specialOf (.ref C) "__call__") (some (.builtin "type.__call__"))) (typ : Looks (model prog w) s.heap (isInstance (.ref C) (.type "type")) true)
    (h : wpAny (model prog w) (A.under (.builtin "type.__call__" ⟨.ref C :: rest, kw⟩)) (Bind.madeBy (.ref C)) (fun o s₀ => wpAny (model prog w) (A.under (.builtin "type.__call__" ⟨.ref C :: rest, kw⟩)) (match o with
          | some i => pure (Value.builtin i)
          | none => getAttr (.ref C) "__new__") (fun new s₁ => wpAny (model prog w) (A.under (.builtin "type.__call__" ⟨.ref C :: rest, kw⟩)) (call new (.ref C :: rest) kw) (fun obj s₂ =>
            Looks (model prog w) s₂.heap (isInstance obj (.ref C)) true ∧ Looks (model prog w) s₂.heap (specialOf obj "__init__") (some init) ∧ Looks (model prog w) s₂.heap (bindSpecial init obj) (init, [obj]) ∧
            wpC (model prog w) (A.under (.builtin "type.__call__" ⟨.ref C :: rest, kw⟩)) (call init (obj :: rest) kw) (fun v s₃ => v = .none ∧ R (.ok (.ret obj)) s₃) s₂) noE s₁) noE s₀) noE s) :
    codeC (model prog w) A (.call (.ref C) ⟨rest, kw⟩) R s := by
  obtain ⟨hh, g, d, t, os⟩ := s
  refine codeC_tree rfl (C_of ?_)
  show wpAny _ _ (callAny (.ref C) _) _ _ _
  refine nd_load hC ?_
  show wpAny _ _ (callAny.viaDunder (.ref C) _) _ _ _
  unfold callAny.viaDunder
  refine wpAny_bind (call₁.at ?_)
  dsimp only
  rw [tc_bind]
  refine wpAny_bind (wpAny_pure (wpAny_bind (wpAny_pure ?_)))
  refine wpAny_pure (a := Fin.again (.call (.builtin "type.__call__") ⟨.ref C :: rest, kw⟩)) (And.intro rfl ?_)
  refine codeC_call_builtin_at (Code.quiet_builtin _ (by decide +kernel)) (show holdIds.contains "type.__call__" = false by decide +kernel) entry_typeCall (check_slot tc_kind tc_split typ (tc_args _ _ _) ?_)
  unfold Builtin.«type.__call__»
  have e : (Value.ref C == Value.type "type") = false := rfl
  simp only [e, Bool.false_eq_true, if_false]
  refine C_looks (mroOf_looks hC) ?_
  simp only [hm, Bool.false_eq_true, if_false]
  have tail : ∀ (new : Value) (s₁ : Shared), wpAny (model prog w) (A.under (.builtin "type.__call__" ⟨.ref C :: rest, kw⟩)) (call new (.ref C :: rest) kw) (fun obj s₂ =>
            Looks (model prog w) s₂.heap (isInstance obj (.ref C)) true ∧ Looks (model prog w) s₂.heap (specialOf obj "__init__") (some init) ∧ Looks (model prog w) s₂.heap (bindSpecial init obj) (init, [obj]) ∧
            wpC (model prog w) (A.under (.builtin "type.__call__" ⟨.ref C :: rest, kw⟩)) (call init (obj :: rest) kw) (fun v s₃ => v = .none ∧ R (.ok (.ret obj)) s₃) s₂) noE s₁ →
      wpC (model prog w) (A.under (.builtin "type.__call__" ⟨.ref C :: rest, kw⟩)) (do
        let obj ← holding [new] (call new (.ref C :: rest) kw)
        if !(← isInstance obj (.ref C)) then
          rule "type.call.new-gave-other-type"
          ret obj
        else do
          match ← holding [obj] (callSpecial? obj "__init__" rest kw) with
          | none => ret obj
          | some r =>
            if r != .none then
              rule "type.call.init-returned-value"
              let nm ← PySem.typeNameOf r
              raiseErrorMade (α := PUnit) "TypeError" (toString "__init__() should return None, not '" ++ toString nm ++ toString "'")
              ret obj
            else ret obj) (fun fin s' => match fin with | .done f => R (.ok f) s' | .again c' => c'.quiet = true ∧ codeC (model prog w) A c' R s') s₁ := by
    intro new s₁ h₁
    refine C_bind (C_holding (C_of (wpAny_mono h₁ (fun obj s₂ h₂ => ?_) fun _ _ q => q)))
    obtain ⟨h1, h2, h3, h4⟩ := h₂
    refine C_looks h1 ?_
    simp only [Bool.not_true, Bool.false_eq_true, if_false]
    refine C_bind (C_holding ?_)
    unfold callSpecial?
    refine C_looks h2 ?_
    dsimp only
    refine C_holding (C_looks h3 ?_)
    dsimp only [List.cons_append, List.nil_append]
    refine C_bind (C_mono h4 fun v s₃ q => ?_)
    obtain ⟨rfl, q⟩ := q
    refine C_pure ?_
    dsimp only
    simp only [bne_self_eq_false, Bool.false_eq_true, if_false]
    exact C_pure q
  refine C_bindK (wpAny_mono h (fun o s₀ h₀ => ?_) fun _ _ q => q)
  cases o with
  | some i => exact C_bindK (wpAny_mono h₀ (fun new s₁ h₁ => tail new s₁ h₁) fun _ _ q => q)
  | none => exact C_bindK (wpAny_mono h₀ (fun new s₁ h₁ => tail new s₁ h₁) fun _ _ q => q)
/-- a plain class: object.__new__, then __init__ -/
theorem C_make_K {K : Frag} {C L : Addr} {h₀ : Heap} {m : Str → Option Value} {news : List (Addr × Obj)} {rest : List Value} {kw : List (Str × Value)} {fI : Addr} (F : Fr h₀ L s.heap m) (N : News h₀ L s.heap news) (X : K.In s.heap) (hm : makesIn K C = true)
    (hi : findIn K (.ref C) "__init__" = some (some (.ref fI))) (hf : isFn K (.ref fI) = true)
    (h : ∀ x dx h', Fr h₀ L h' m → News h₀ L h' ((x, instObj C dx) :: (dx, dictOf [] 0) :: news) → (∀ p ∈ news, p.1 < dx) → dx < x →
      wpC (model prog w) (A.under (.builtin "type.__call__" ⟨.ref C :: rest, kw⟩)) (call (.ref fI) (.ref x :: rest) kw) (fun v s₃ => v = .none ∧ R (.ok (.ret (.ref x))) s₃) { s with heap := h' }) :
    codeC (model prog w) A (.call (.ref C) ⟨rest, kw⟩) R s := by
  obtain ⟨hh, g, d, t, os⟩ := s
  have Y := makes_of (M := model prog w) X hm
  have Y' := Y
  obtain ⟨⟨oc, od, cd, sl, hC, e1, e2, e4⟩, made, base, self, top, call, typ⟩ := Y
  have hi' : Looks (model prog w) hh (typeLookup (.ref C) "__init__") (some (.ref fI)) := looks_findIn X hi
  refine C_make (init := .ref fI) hC e4 call typ ?_
  refine made.at ?_
  dsimp only
  refine wpAny_pure (wpAny_call (new_K Y' hi' (.inl rfl) ?_))
  have k : ∀ b o, hh.get? b = some o → ((hh.push emptyDict).push (instObj C hh.objs.size)).get? b = some o := fun b o e => Heap.get?_push_of_some _ (Heap.get?_push_of_some _ e)
  have hx : ((hh.push emptyDict).push (instObj C hh.objs.size)).get? (hh.objs.size + 1) = some (instObj C hh.objs.size) := by heap_get
  have t1 : Looks (model prog w) ((hh.push emptyDict).push (instObj C hh.objs.size)) (typeOf (.ref (hh.objs.size + 1))) (.ref C) := (Looks.ld hx).andThen .now
  have N' := (N.push F emptyDict).push (F.push _) (instObj C hh.objs.size)
  rw [Heap.size_push] at N'
  exact ⟨t1.andThen (self.keeps k), t1.andThen (hi'.keeps k), bind_fn (X.keeps k) _ (beq_iff_eq.mp hf),
    h _ hh.objs.size _ ((F.push _).push _) N' (fun p hp => Heap.lt_size (N p hp).1) (Nat.lt_succ_self _)⟩
end
end Mine
end EzCM
section EzCB
open PySem PySem.W PyProof.Rows PySem.Calls
set_option maxRecDepth 100000
set_option maxHeartbeats 4000000
set_option linter.deprecated false
namespace Mine
theorem past_ba {b : Array UInt8} {n : Nat} (h : b.size ≤ sizeLine) : (Data.bytearray b n).pastItsLine = none := by
  show (if b.size > sizeLine then some "bytearray:memory" else none) = none
  rw [if_neg (Nat.not_lt.mpr h)]
theorem slot_ba_release : typeLookup (.type "bytearray") "__release_buffer__" = pure (some (.builtin "bytearray.__release_buffer__")) := by rw [typeLookup_type, builtinLookup_eq_fast]; kernel_rfl
theorem ba_sub_self : isSubtype (.type "bytearray") (.type "bytearray") = pure true := by rw [isSubtype_type]; kernel_rfl
section
variable {M : Model} {A : Around} {E : Value → Shared → Prop} {s : Shared} {a : Addr} {buf : Array UInt8}
theorem ba_write {f : Array UInt8 → Array UInt8} {Q : Unit → Shared → Prop} (ho : s.heap.get? a = some (baObj buf)) (hz : (f buf).size ≤ sizeLine)
    (h : Q () { s with heap := s.heap.update a (Obj.mapBytearray f) }) : wpAny M A (Builtin.Bytes.write (.ref a) f) Q E s := by
  show wpAny M A (updateBytearray a f) Q E s
  unfold updateBytearray
  refine wpAny_bind (wpAny_load ho ?_)
  dsimp only
  refine wpAny_bind (wpAny_update ho ?_)
  exact wpAny_lookBehind (o := Obj.mapBytearray f (baObj buf)) (Heap.get?_update_self _ ho rfl) (past_ba hz) h
theorem ba_ownRelease {Q : Bool → Shared → Prop} (ho : s.heap.get? a = some (baObj buf)) (h : Q false s) : wpAny M A (Builtin.Bytes.ownRelease (.ref a)) Q E s := by
  unfold Builtin.Bytes.ownRelease Builtin.Bytes.slotIsOwn
  refine wpAny_bind (wpAny_bind (wpAny_specialOf (ba_typeIs ho) slot_ba_release ?_))
  dsimp only
  rw [show (!("bytearray.__release_buffer__" : String).endsWith ("." ++ "__release_buffer__")) = false by decide +kernel]
  simp only [Bool.false_eq_true, if_false]
  rw [show (("bytearray.__release_buffer__" : String).dropRight ("__release_buffer__".length + 1)) = "bytearray" by decide +kernel]
  refine wpAny_isInstance (ba_typeIs ho) ba_sub_self ?_
  exact wpAny_pure h
theorem ba_exports {Q : Nat → Shared → Prop} (ho : s.heap.get? a = some (baObj buf)) (h : Q 0 s) : wpAny M A (Builtin.Bytes.exportsOf (.ref a)) Q E s := by
  unfold Builtin.Bytes.exportsOf
  refine wpAny_bind (wpAny_load ho (wpAny_pure h))
theorem ba_free {Q : Bool → Shared → Prop} (ho : s.heap.get? a = some (baObj buf)) (h : Q false s) : wpC M A (Builtin.Bytes.exported (.ref a) <||> (do return (← Builtin.Bytes.exportsOf (.ref a)) > 0)) Q s := by
  show wpC M A (Builtin.Bytes.exported (.ref a) >>= fun b => _) Q s
  refine C_bind (C_exported ?_)
  show wpC M A (Builtin.Bytes.exportsOf (.ref a) >>= fun n => pure (decide (n > 0))) Q s
  exact C_bindK (ba_exports ho (C_pure h))
theorem ba_resize {Q : Unit → Shared → Prop} (ho : s.heap.get? a = some (baObj buf)) (h : Q () s) : wpC M A (Builtin.Bytes.checkResize (.ref a)) Q s := by
  unfold Builtin.Bytes.checkResize
  refine C_bind (ba_free ho ?_)
  simp only [Bool.false_eq_true, if_false]
  exact C_pure h
end
theorem bind_opt0 : Builtin.Bytes.bindOptional "bytearray.__init__" "bytearray" ["source", "encoding", "errors"] [] [] = pure [none, none, none] := by kernel_rfl
theorem bind_opt1 (v : Value) : Builtin.Bytes.bindOptional "bytearray.__init__" "bytearray" ["source", "encoding", "errors"] [v] [] = pure [some v, none, none] := by kernel_rfl
section
variable {prog : Program} {w : World} {A : Around} {s : Shared} {a : Addr} {buf : Array UInt8}
/-- bytearray.__init__ with nothing, over clean contexts -/
theorem ba_init0 {Q : Fin → Shared → Prop} (ho : s.heap.get? a = some (baObj buf)) (h : Q (.done (.ret .none)) { s with heap := s.heap.update a (Obj.mapBytearray fun _ => #[]) }) :
    wpC (model prog w) A (Builtin.«bytearray.__init__» ⟨[.ref a], []⟩) Q s := by
  unfold Builtin.«bytearray.__init__»
  dsimp only
  refine C_bindK (ba_ownRelease ho ?_)
  simp only [Bool.false_eq_true, if_false, bind_opt0, pure_bind]
  unfold Builtin.Bytes.checkCodecArg
  dsimp only
  simp only [pure_bind]
  refine C_bind (ba_free ho ?_)
  simp only [Bool.false_eq_true, if_false]
  refine C_bindK (ba_write ho (Nat.zero_le _) ?_)
  simp only [Option.isSome_none, Bool.false_eq_true, if_false, pure_bind]
  exact C_pure h
theorem asStr_bytes (b : Array UInt8) (t : Tok) : asStr? (.bytes b t) = pure none := by kernel_rfl
theorem bytes_noIndex (b : Array UInt8) (t : Tok) : specialOf (.bytes b t) "__index__" = pure none := KBy.special_eq (by rw [typeLookup_type, builtinLookup_eq_fast]; kernel_rfl)
open Builtin in
theorem buffer_full {b : Array UInt8} {t : Tok} {bi : String} : Bytes.buffer? bi (.bytes b t) true = pure (some b) := by
  unfold Bytes.buffer?
  rw [KBy.special_eq KBy.look_buffer, KBy.own_buffer, KBy.own_release]
  kernel_rfl
/-- bytearray.__init__ of bytes -/
theorem ba_init1 {b : Array UInt8} {t : Tok} {Q : Fin → Shared → Prop} (ho : s.heap.get? a = some (baObj buf)) (hz : b.size ≤ sizeLine)
    (h : ∀ h', h'.get? a = some (baObj b) → Heap.SameBut a s.heap h' → Q (.done (.ret .none)) { s with heap := h' }) :
    wpC (model prog w) A (Builtin.«bytearray.__init__» ⟨[.ref a, .bytes b t], []⟩) Q s := by
  unfold Builtin.«bytearray.__init__»
  dsimp only
  refine C_bindK (ba_ownRelease ho ?_)
  simp only [Bool.false_eq_true, if_false, bind_opt1, pure_bind]
  unfold Builtin.Bytes.checkCodecArg
  dsimp only
  simp only [pure_bind]
  refine C_bind (ba_free ho ?_)
  simp only [Bool.false_eq_true, if_false]
  refine C_bindK (ba_write ho (Nat.zero_le _) ?_)
  simp only [Option.isSome_none, Bool.false_eq_true, if_false, pure_bind, asStr_bytes, bytes_noIndex, buffer_full]
  refine C_bind (C_rule ?_)
  have e1 : (s.heap.update a (Obj.mapBytearray fun _ => #[])).get? a = some (baObj #[]) := Heap.get?_update_self _ ho rfl
  refine C_bindK (ba_write (buf := #[]) e1 hz ?_)
  exact C_pure (h _ (Heap.get?_update_self _ e1 rfl) ((Heap.SameBut.update ..).trans (Heap.SameBut.update ..)))
end
theorem ba_mro : mroOf (.type "bytearray") = pure [.type "bytearray", .type "object"] := by rw [mroOf_type]; kernel_rfl
theorem ba_lookup_new : typeLookup (.type "bytearray") "__new__" = pure (some (.builtin "bytearray.__new__")) := by rw [typeLookup_type, builtinLookup_eq_fast]; kernel_rfl
theorem slot_ba_init : Slot "bytearray" "__init__" "bytearray.__init__" :=
  .of (owner := "bytearray") (n := "__init__") (by rw [typeLookup_type, builtinLookup_eq_fast]; kernel_rfl) (by decide +kernel) (by decide +kernel) (by decide +kernel)
    (by first | exact .inl (by decide +kernel) | exact .inr (by decide +kernel)) (by rw [isSubtype_type]; kernel_rfl)
theorem ba_called : TypeCalled "bytearray" "bytearray.__new__" "bytearray.__init__" :=
  ⟨by decide +kernel, by decide +kernel, ⟨_, _, ba_mro⟩, madeBy_type ba_mro ba_lookup_new (by decide +kernel), by decide +kernel, ba_sub_self, slot_ba_init⟩
theorem ba_typeCall0 : checkTypeCall "bytearray" ⟨[], []⟩ = pure () := by kernel_rfl
theorem ba_typeCall1 (v : Value) : checkTypeCall "bytearray" ⟨[v], []⟩ = pure () := by kernel_rfl
theorem ba_newCall (l : List Value) : checkBuiltinCall "bytearray.__new__" ⟨.type "bytearray" :: l, []⟩ = pure () := by kernel_rfl
theorem ba_entry_new : entryFor table "bytearray.__new__" = some Builtin.«list.__new__» :=
  entryFor_alias (id' := "list.__new__") (by rw [fastTable_eq_tree]; kernel_rfl) (by first | rfl | decide +kernel) (by decide +kernel) (by rw [fastTable_eq_tree]; kernel_rfl)
theorem ba_entry_init : entryFor table "bytearray.__init__" = some Builtin.«bytearray.__init__» := entryFor_of_tree (by kernel_rfl)
theorem ba_plain_new : plainId "bytearray.__new__" = true := by decide +kernel
theorem ba_args_init0 (a : Value) : argsOk "bytearray.__init__" ⟨[a], []⟩ := by unfold argsOk; kernel_rfl
theorem ba_args_init1 (a v : Value) : argsOk "bytearray.__init__" ⟨[a, v], []⟩ := by unfold argsOk; kernel_rfl
theorem ba_owner_new : ("bytearray.__new__".splitOn ".__new__").headD "" = "bytearray" := by simp +decide [String.splitOn, String.splitOnAux]
section
variable {prog : Program} {w : World} {A : Around} {E : Value → Shared → Prop} {s : Shared}
theorem ba_code_new (l : List Value) {Q₁ : Value → Shared → Prop} (h : Q₁ (.ref s.heap.objs.size) { s with heap := s.heap.push (baObj #[]) }) :
    codeAny (model prog w) A (.call (.builtin "bytearray.__new__") ⟨.type "bytearray" :: l, []⟩) (wants Q₁ E) s := by
  refine codeAny_of_tree ?_
  show wpAny _ A.in1 (do checkBuiltinCall "bytearray.__new__" ⟨.type "bytearray" :: l, []⟩; again (.builtin "bytearray.__new__" ⟨.type "bytearray" :: l, []⟩)) _ _ s
  refine wpAny_bind (wpAny_of_eq (ba_newCall l) (wpAny_pure ⟨plainId_quiet ba_plain_new _, codeAny_builtin_stack ba_entry_new rfl fun p st => ?_⟩))
  rw [Around.under_plainId ba_plain_new _]
  have hsub := ba_sub_self
  have hown := ba_owner_new
  obtain ⟨hp, g, d, tk, os⟩ := s
  simp only [hown]
  wp_walk
  exact h
/-- a built-in type is called: __new__ asks nothing of the stack, __init__ over clean contexts -/
theorem C_typeCalled {T newId initId : String} {Bi : PySem.Builtin} {args : List Value} {Q Q₁ : Value → Shared → Prop} (ft : TypeCalled T newId initId)
    (hct : checkTypeCall T ⟨args, []⟩ = pure ()) (entryI : entryFor table initId = some Bi) (hbad : holdIds.contains initId = false)
    (hnew : codeAny (model prog w) A.in1 (.call (.builtin newId) ⟨.type T :: args, []⟩) (wants Q₁ noE) s)
    (hnext : ∀ obj s₁, Q₁ obj s₁ → s₁.TypeIs obj T ∧ argsOk initId ⟨obj :: args, []⟩ ∧
      wpC (model prog w) A.in1.in1 (Bi ⟨obj :: args, []⟩) (fun fin s' => match fin with | .done f => f = .ret .none ∧ Q obj s' | .again _ => False) s₁) :
    wpC (model prog w) A (call (.type T) args) Q s := by
  obtain ⟨c, tl, hmro⟩ := ft.mro
  have hmade := ft.made
  have hsub := ft.sub
  refine C_call (codeC_tree rfl ?_)
  show wpC _ _ (callAny (.type T) _) _ _
  refine C_pure ⟨Code.quiet_builtin _ (by decide +kernel), codeC_builtin (show holdIds.contains "type.__call__" = false by decide +kernel) F.entry_type_call ?_⟩
  rw [Around.under_plain (weight_type_call_type T args []) (units_type_call_type T args [])]
  have h1 := ft.notType
  have h2 := ft.canCreate
  dsimp only
  unfold Builtin.«type.__call__»
  dsimp only
  simp only [h1, Bool.false_eq_true, if_false, h2, hct, pure_bind, hmro, List.isEmpty_cons, hmade]
  refine C_bind (C_holding (C_of (wpAny_call (codeAny_mono hnew fun r s₁ hr => ?_))))
  cases r with
  | error e => exact hr
  | ok fl =>
    cases fl with
    | ret obj =>
      obtain ⟨hT, hok, hsi⟩ := hnext _ _ hr
      have hli := ft.init.lookup
      have hbi := ft.init.bind obj
      refine C_bindK (wpAny_isInstance hT hsub ?_)
      simp only [Bool.not_true, Bool.false_eq_true, if_false]
      refine C_bind (C_holding ?_)
      unfold callSpecial?
      refine C_bindK (wpAny_specialOf hT hli ?_)
      dsimp only
      rw [hbi]
      refine C_holding ?_
      simp only [pure_bind, List.cons_append, List.nil_append]
      refine C_bind (C_call (codeC_call_builtin_at (plainId_quiet ft.init.plain _) hbad entryI (ft.init.check _ _ _ _ _ _ _ _ hT hok ?_)))
      rw [Around.under_plainId ft.init.plain _]
      refine C_mono hsi fun fin s₂ h₂ => ?_
      cases fin with
      | again _ => exact h₂.elim
      | done f =>
        obtain ⟨rfl, hq⟩ := h₂
        refine ⟨_, rfl, C_pure ?_⟩
        dsimp only
        simp only [bne_self_eq_false, Bool.false_eq_true, if_false]
        exact C_pure ⟨_, rfl, hq⟩
    | _ => exact hr.elim
end
end Mine
end EzCB
section EzCS
open PySem PySem.W PyProof.Rows PySem.Calls
set_option maxRecDepth 100000
set_option maxHeartbeats 4000000
set_option linter.deprecated false
namespace Mine
section
variable {prog : Program} {w : World} {A : Around} {E : Value → Shared → Prop} {s : Shared} {a al : Addr} {buf : Array UInt8}
theorem ba_call0 {Q : Value → Shared → Prop} (h : ∀ h', h'.get? s.heap.objs.size = some (baObj #[]) → Heap.SameBut s.heap.objs.size (s.heap.push (baObj #[])) h' → Q (.ref s.heap.objs.size) { s with heap := h' }) :
    wpC (model prog w) A (call (.type "bytearray") []) Q s := by
  refine C_typeCalled (Q₁ := fun v s₁ => v = .ref s.heap.objs.size ∧ s₁ = { s with heap := s.heap.push (baObj #[]) }) ba_called ba_typeCall0 ba_entry_init (by decide +kernel) (ba_code_new [] ⟨rfl, rfl⟩) ?_
  rintro obj s₁ ⟨rfl, rfl⟩
  have ho : (s.heap.push (baObj #[])).get? s.heap.objs.size = some (baObj #[]) := Heap.get?_push_size _ rfl
  exact ⟨ba_typeIs ho, ba_args_init0 _, ba_init0 ho ⟨rfl, h _ (Heap.get?_update_self _ ho rfl) (Heap.SameBut.update ..)⟩⟩
theorem ba_call1 {b : Array UInt8} {t : Tok} {Q : Value → Shared → Prop} (hz : b.size ≤ sizeLine) (h : ∀ h', h'.get? s.heap.objs.size = some (baObj b) → Heap.SameBut s.heap.objs.size (s.heap.push (baObj #[])) h' → Q (.ref s.heap.objs.size) { s with heap := h' }) :
    wpC (model prog w) A (call (.type "bytearray") [.bytes b t]) Q s := by
  refine C_typeCalled (Q₁ := fun v s₁ => v = .ref s.heap.objs.size ∧ s₁ = { s with heap := s.heap.push (baObj #[]) }) ba_called (ba_typeCall1 _) ba_entry_init (by decide +kernel) (ba_code_new [_] ⟨rfl, rfl⟩) ?_
  rintro obj s₁ ⟨rfl, rfl⟩
  have ho : (s.heap.push (baObj #[])).get? s.heap.objs.size = some (baObj #[]) := Heap.get?_push_size _ rfl
  exact ⟨ba_typeIs ho, ba_args_init1 _ _, ba_init1 ho hz fun h' e k => ⟨rfl, h h' e k⟩⟩
open Builtin in
theorem slice_parts {l u : Value} {lo hi : Option Int} {Q : Value × Value × Value → Shared → Prop} (hl : IsPart l lo) (hu : IsPart u hi) (hS : s.heap.IsSliceOf al l u .none) (h : Q (rawPart lo, rawPart hi, rawPart none) s) :
    wpAny (model prog w) A (Bytes.sliceParts (.ref al)) Q E s := by
  obtain ⟨o, ho, hc, hd⟩ := hS
  unfold Bytes.sliceParts
  refine wpAny_bind (wpAny_field (x := .none) ho hd rfl ?_)
  kby_none
  refine wpAny_ite (KBy.ite_no (show ¬ ((Value.none == rawInt 0) = true) from Bool.false_ne_true) ?_)
  refine wpAny_bind (wpAny_field (x := l) ho hd rfl ?_)
  cases hl <;> cases hu <;> (first
    | (kby_none; (refine wpAny_bind (wpAny_field (x := .none) ho hd rfl ?_)); kby_none)
    | (kby_none; (refine wpAny_bind (wpAny_field (x := .int _ _) ho hd rfl ?_)); kby_int)
    | (kby_int; (refine wpAny_bind (wpAny_field (x := .none) ho hd rfl ?_)); kby_none)
    | (kby_int; (refine wpAny_bind (wpAny_field (x := .int _ _) ho hd rfl ?_)); kby_int)) <;> exact wpAny_pure h
theorem bounds_end (n k : Nat) : sliceBounds (some (n : Int)) (some ((n + k : Nat) : Int)) none n = ((n : Int), (n : Int), 1) := by
  unfold sliceBounds
  simp only [Option.getD_none]
  have h1 : ¬ ((n : Int) < 0) := by omega
  have h2 : ¬ (((n + k : Nat) : Int) < 0) := by omega
  simp only [h1, h2, if_false, if_true, show ((1 : Int) > 0) = True by simp]
  refine Prod.ext ?_ (Prod.ext ?_ rfl) <;> dsimp only <;> omega
theorem bounds_all (n : Nat) : sliceBounds (some 0) none none n = (0, (n : Int), 1) := by
  unfold sliceBounds
  simp only [Option.getD_none]
  refine Prod.ext ?_ (Prod.ext ?_ rfl) <;> simp <;> omega
theorem bytes_noInt (b : Array UInt8) (t : Tok) : specialOf (.bytes b t) "__int__" = pure none := KBy.special_eq (by rw [typeLookup_type, builtinLookup_eq_fast]; kernel_rfl)
theorem bytes_noFloat (b : Array UInt8) (t : Tok) : specialOf (.bytes b t) "__float__" = pure none := KBy.special_eq (by rw [typeLookup_type, builtinLookup_eq_fast]; kernel_rfl)
theorem bytes_noBa (b : Array UInt8) (t : Tok) : isInstance (.bytes b t) (.type "bytearray") = pure false := by
  have e : isInstance (.bytes b t) (.type "bytearray") = isSubtype (.type "bytes") (.type "bytearray") := rfl
  rw [e, isSubtype_type]; kernel_rfl
theorem bytes_noComplex (b : Array UInt8) (t : Tok) : isInstance (.bytes b t) (.type "complex") = pure false := by
  have e : isInstance (.bytes b t) (.type "complex") = isSubtype (.type "bytes") (.type "complex") := rfl
  rw [e, isSubtype_type]; kernel_rfl
open Builtin in
/-- octets are written at a bytearray's end -/
theorem ba_setitem_end {l u : Value} {b : Array UInt8} {t : Tok} {Q : Fin → Shared → Prop} (hl : IsPart l (some (buf.size : Int))) (hu : IsPart u (some ((buf.size + b.size : Nat) : Int)))
    (hS : s.heap.IsSliceOf al l u .none) (ho : s.heap.get? a = some (baObj buf)) (hz : buf.size + b.size ≤ sizeLine)
    (h : ∀ h', h'.get? a = some (baObj (buf ++ b)) → (∀ c o, c ≠ a → s.heap.get? c = some o → h'.get? c = some o) → Q (.done (.ret .none)) { s with heap := h' }) :
    wpC (model prog w) A (Builtin.«bytearray.__setitem__» ⟨[.ref a, .ref al, .bytes b t], []⟩) Q s := by
  obtain ⟨o, hal, hc, hd⟩ := id hS
  have hT : s.TypeIs (.ref al) "slice" := ⟨o, hal, hc⟩
  have hne : al ≠ a := by
    rintro rfl
    rw [ho] at hal
    cases hal
    exact absurd hc (by simp)
  unfold Builtin.«bytearray.__setitem__»
  dsimp only
  simp only [List.isEmpty_nil, Bool.not_true, Bool.false_eq_true, if_false]
  refine C_bindK ?_
  unfold Bytes.subscript?
  refine wpAny_bind (wpAny_specialOf hT slice_no_index (wpAny_pure ?_))
  dsimp only
  refine C_bindK (wpAny_typeOf hT ?_)
  rw [if_neg (by decide)]
  refine C_bindK (slice_parts hl hu hS ?_)
  have e0 : Bytes.sameRef (.ref a) (.bytes b t) = false := rfl
  simp only [e0, Bool.false_eq_true, if_false, bytes_noBa, pure_bind, Bool.not_false, if_true, asStr_bytes, bytes_noIndex]
  refine C_bind ?_
  show wpC _ _ (pure false >>= fun r => if r = true then pure true else (specialOf (.bytes b t) "__int__" >>= fun v => pure v.isSome) >>= fun r => if r = true then pure true else (specialOf (.bytes b t) "__float__" >>= fun v => pure v.isSome) >>= fun r => if r = true then pure true else isInstance (.bytes b t) (.type "complex")) _ _
  simp only [pure_bind, bytes_noInt, bytes_noFloat, bytes_noComplex, Option.isSome_none, Bool.false_eq_true, if_false]
  refine C_pure ?_
  simp only [Bool.or_self, Bool.false_eq_true, if_false]
  refine C_bind (C_rule (C_bind (ba_call1 (by omega) fun h₁ e₁ k₁ => ?_)))
  have up : ∀ c o, c ≠ s.heap.objs.size → s.heap.get? c = some o → h₁.get? c = some o := fun c o hc e => k₁.extBut c o hc (Heap.get?_push_of_some _ e)
  have hal₁ : h₁.get? al = some o := up _ _ (Nat.ne_of_lt (Heap.lt_size hal)) hal
  have ho₁ : h₁.get? a = some (baObj buf) := up _ _ (Nat.ne_of_lt (Heap.lt_size ho)) ho
  refine C_bind (C_holding (C_of (slice_parts hl hu ⟨o, hal₁, hc, hd⟩ ?_)))
  refine C_bindK (ba_payload e₁ (C_bindK (ba_payload ho₁ ?_)))
  dsimp only
  rw [sliceIndices_raw _ _ none _ (fun e => nomatch e), bounds_end]
  simp only [pure_bind]
  rw [if_pos (by decide)]
  refine C_bind (C_rule ?_)
  have fin : wpC (model prog w) A (do
      Bytes.write (.ref a) fun x => x.extract 0 (buf.size : Int).toNat ++ b ++ x.extract (max (buf.size : Int) (buf.size : Int)).toNat x.size
      ret Value.none) Q { s with heap := h₁ } := by
    have ee : (fun x : Array UInt8 => x.extract 0 (buf.size : Int).toNat ++ b ++ x.extract (max (buf.size : Int) (buf.size : Int)).toNat x.size) buf = buf ++ b := by
      dsimp only
      simp
    refine C_bindK (ba_write ho₁ (Nat.le_trans (Nat.le_of_eq (congrArg Array.size ee)) (by rw [Array.size_append]; exact hz)) (C_pure (h _ ?_ ?_)))
    · rw [Heap.get?_update_self _ ho₁ rfl]
      exact congrArg (fun x => some (baObj x)) ee
    · intro c o hca e
      by_cases q : c = s.heap.objs.size
      · rw [q] at e; exact absurd (Heap.lt_size e) (Nat.lt_irrefl _)
      · exact (Heap.SameBut.update ..).extBut c o hca (up c o q e)
  split
  · refine C_bind (ba_resize ho₁ ?_)
    exact fin
  · exact fin
open Builtin in
/-- all of a bytearray is deleted -/
theorem ba_delitem_all {l u : Value} {Q : Fin → Shared → Prop} (hl : IsPart l (some 0)) (hu : IsPart u none)
    (hS : s.heap.IsSliceOf al l u .none) (ho : s.heap.get? a = some (baObj buf)) (hz : buf.size ≤ sizeLine)
    (h : ∀ h', h'.get? a = some (baObj #[]) → (∀ c o, c ≠ a → s.heap.get? c = some o → h'.get? c = some o) → Q (.done (.ret .none)) { s with heap := h' }) :
    wpC (model prog w) A (Builtin.«bytearray.__delitem__» ⟨[.ref a, .ref al], []⟩) Q s := by
  obtain ⟨o, hal, hc, hd⟩ := id hS
  have hT : s.TypeIs (.ref al) "slice" := ⟨o, hal, hc⟩
  unfold Builtin.«bytearray.__delitem__»
  have e0 : slotArgs "__delitem__" 1 ⟨[.ref a, .ref al], []⟩ = pure (.ref a, [.ref al]) := by kernel_rfl
  rw [e0]
  simp only [pure_bind]
  refine C_bindK ?_
  unfold Bytes.subscript?
  refine wpAny_bind (wpAny_specialOf hT slice_no_index (wpAny_pure ?_))
  dsimp only
  refine C_bindK (wpAny_typeOf hT ?_)
  rw [if_neg (by decide)]
  refine C_bindK (slice_parts hl hu hS ?_)
  dsimp only
  refine C_bindK (ba_payload ho ?_)
  rw [sliceIndices_raw _ _ none _ (fun e => nomatch e), bounds_all]
  simp only [pure_bind]
  refine C_bind (C_rule ?_)
  have fin : wpC (model prog w) A (do
      Bytes.write (.ref a) fun b => (b.toList.zipIdx.filterMap fun (x, k) => if Bytes.selects 0 (buf.size : Int) 1 k then none else some x).toArray
      ret Value.none) Q s := by
    have ee : (buf.toList.zipIdx.filterMap fun (x, k) => if Bytes.selects 0 (buf.size : Int) 1 k then none else some x).toArray = #[] := by
      rw [List.filterMap_eq_nil_iff.mpr]
      rintro ⟨x, k⟩ hx
      have hk : k < buf.size := by
        have := List.snd_lt_of_mem_zipIdx hx
        simpa using this
      have : Bytes.selects 0 (buf.size : Int) 1 k = true := by
        unfold Bytes.selects
        simp
        omega
      dsimp only
      rw [this]; rfl
    refine C_bindK (ba_write ho (by dsimp only; rw [ee]; exact Nat.zero_le _) (C_pure (h _ ?_ fun c o hca e => (Heap.SameBut.update ..).extBut c o hca e)))
    rw [Heap.get?_update_self _ ho rfl]
    exact congrArg (fun x => some (baObj x)) ee
  split
  · refine C_bind (ba_resize ho ?_)
    exact fin
  · exact fin
end
end Mine
end EzCS
section EzCT
open PySem PySem.W PyProof.Rows PySem.Calls
set_option maxRecDepth 100000
set_option maxHeartbeats 4000000
namespace Mine
theorem slot_ba_setitem : Slot "bytearray" "__setitem__" "bytearray.__setitem__" :=
  .of (owner := "bytearray") (n := "__setitem__") (by rw [typeLookup_type, builtinLookup_eq_fast]; kernel_rfl) (by decide +kernel) (by decide +kernel) (by decide +kernel)
    (by first | exact .inl (by decide +kernel) | exact .inr (by decide +kernel)) (by rw [isSubtype_type]; kernel_rfl)
theorem slot_ba_delitem : Slot "bytearray" "__delitem__" "bytearray.__delitem__" :=
  .of (owner := "bytearray") (n := "__delitem__") (by rw [typeLookup_type, builtinLookup_eq_fast]; kernel_rfl) (by decide +kernel) (by decide +kernel) (by decide +kernel)
    (by first | exact .inl (by decide +kernel) | exact .inr (by decide +kernel)) (by rw [isSubtype_type]; kernel_rfl)
theorem entry_ba_setitem : entryFor table "bytearray.__setitem__" = some Builtin.«bytearray.__setitem__» := entryFor_of_tree (by kernel_rfl)
theorem entry_ba_delitem : entryFor table "bytearray.__delitem__" = some Builtin.«bytearray.__delitem__» := entryFor_of_tree (by kernel_rfl)
theorem args_ba_setitem (a b c : Value) : argsOk "bytearray.__setitem__" ⟨[a, b, c], []⟩ := by unfold argsOk; kernel_rfl
theorem args_ba_delitem (a b : Value) : argsOk "bytearray.__delitem__" ⟨[a, b], []⟩ := by unfold argsOk; kernel_rfl
section
variable {M : Model} {A : Around} {s : Shared} {env : Env}
theorem exec_Assign_Sub (o i pos' value pos) (hs : swapsWith value (some (.Subscript o i pos')) pos.line env = pure false) : exec (.Assign [.Subscript o i pos'] value pos) env =
    (do standAt pos; let v ← eval value env; assign (.Subscript o i pos') env v; pure .next) := by
  have e : exec (.Assign [.Subscript o i pos'] value pos) env = (do
      standAt pos
      if ← swapsWith value (some (.Subscript o i pos')) pos.line env then
        evalThenUse value env (assign (.Subscript o i pos') env)
        return .next
      let v ← eval value env
      assign (.Subscript o i pos') env v
      pure .next) := rfl
  rw [e, hs]; rfl
theorem C_Assign_Sub {o i pos' value pos} {Q : Flow → Shared → Prop}
    (h : wpAny M A (eval value env) (fun v s₁ => wpAny M A (eval o env) (fun ov s₂ => wpAny M A (eval i env) (fun iv s₃ => wpC M A (setItem ov iv v) (fun _ => Q .next) s₃) noE s₂) noE s₁) noE s)
    (hs : swapsWith value (some (.Subscript o i pos')) pos.line env = pure false := by rfl) :
    wpC M A (exec (.Assign [.Subscript o i pos'] value pos) env) Q s := by
  rw [exec_Assign_Sub o i pos' value pos hs]
  simp only [arm_assign_Subscript]
  refine C_bind (C_standAt (C_bindK (wpAny_mono h (fun v s₁ h₁ => C_bind (C_bind (C_holding (C_of (wpAny_mono h₁ (fun ov s₂ h₂ => C_bind (C_holding (C_of (wpAny_mono h₂ (fun iv s₃ h₃ => ?_) fun _ _ q => q)))) fun _ _ q => q))))) fun _ _ q => q)))
  refine C_bind (C_standAt (C_bind (C_holding (C_mono h₃ fun _ s₄ h₄ => ?_))))
  exact C_of (wpAny_release (C_pure h₄))
theorem C_Delete_Sub {o i pos' pos} {Q : Flow → Shared → Prop}
    (h : wpAny M A (eval o env) (fun ov s₂ => wpAny M A (eval i env) (fun iv s₃ => wpC M A (delItem ov iv) (fun _ => Q .next) s₃) noE s₂) noE s) :
    wpC M A (exec (.Delete [.Subscript o i pos'] pos) env) Q s := by
  rw [arm_exec_Delete]
  simp only [arm_deleteEach_cons, arm_deleteEach_nil, arm_delete_Subscript]
  refine C_bind (C_standAt (C_bind (C_bind (C_bindK (wpAny_mono h (fun ov s₂ h₂ => C_bind (C_holding (C_of (wpAny_mono h₂ (fun iv s₃ h₃ => ?_) fun _ _ q => q)))) fun _ _ q => q)))))
  refine C_bind (C_standAt (C_bind (C_holding (C_mono h₃ fun _ s₄ h₄ => ?_))))
  exact C_of (wpAny_release (C_pure (C_pure h₄)))
end
section
variable {prog : Program} {w : World} {A : Around} {E : Value → Shared → Prop} {s : Shared} {a al : Addr} {buf : Array UInt8}
/-- a slot of a built-in type is called, its body over clean contexts -/
theorem C_slot {T id' : String} {name : PySem.Str} {o : Value} {args : List Value} {B : PySem.Builtin} {Q : Option Value → Shared → Prop} (hT : s.TypeIs o T) (slot : Slot T name id')
    (entry : entryFor table id' = some B) (hok : argsOk id' ⟨o :: args, []⟩) (hbad : holdIds.contains id' = false)
    (h : wpC (model prog w) A.in1 (B ⟨o :: args, []⟩) (fun fin s' => ∃ v, fin = .done (.ret v) ∧ Q (some v) s') s) : wpC (model prog w) A (callSpecial? o name args) Q s := by
  unfold callSpecial?
  refine C_bindK (wpAny_specialOf hT slot.lookup ?_)
  dsimp only
  rw [slot.bind o]
  refine C_holding ?_
  simp only [pure_bind, List.cons_append, List.nil_append]
  refine C_bind (C_call (codeC_call_builtin_at (plainId_quiet slot.plain _) hbad entry (slot.check _ _ _ _ _ _ _ _ hT hok ?_)))
  rw [Around.under_plainId slot.plain _]
  refine C_mono h fun fin s' q => ?_
  obtain ⟨v, rfl, q⟩ := q
  exact ⟨v, rfl, C_pure q⟩
theorem ba_key {k : Value} {name : PySem.Str} {Q : Value → Shared → Prop} (ho : s.heap.get? a = some (baObj buf)) (h : Q k s) : wpAny (model prog w) A (sequenceKey (.ref a) k name) Q E s := by
  unfold sequenceKey
  refine wpAny_bind (wpAny_typeOf (ba_typeIs ho) ?_)
  dsimp only
  rw [if_pos (by decide)]
  exact wpAny_pure h
theorem ba_setItem_end {l u : Value} {b : Array UInt8} {t : Tok} {Q : Unit → Shared → Prop} (hl : IsPart l (some (buf.size : Int))) (hu : IsPart u (some ((buf.size + b.size : Nat) : Int)))
    (hS : s.heap.IsSliceOf al l u .none) (ho : s.heap.get? a = some (baObj buf)) (hz : buf.size + b.size ≤ sizeLine)
    (h : ∀ h', h'.get? a = some (baObj (buf ++ b)) → (∀ c o, c ≠ a → s.heap.get? c = some o → h'.get? c = some o) → Q () { s with heap := h' }) :
    wpC (model prog w) A (setItem (.ref a) (.ref al) (.bytes b t)) Q s := by
  unfold setItem
  refine C_holding (C_bindK (ba_key ho ?_))
  refine C_bind (C_slot (ba_typeIs ho) slot_ba_setitem entry_ba_setitem (args_ba_setitem _ _ _) (by decide +kernel) ?_)
  exact ba_setitem_end hl hu hS ho hz fun h' e k => ⟨_, rfl, C_pure (h h' e k)⟩
theorem ba_delItem_all {l u : Value} {Q : Unit → Shared → Prop} (hl : IsPart l (some 0)) (hu : IsPart u none)
    (hS : s.heap.IsSliceOf al l u .none) (ho : s.heap.get? a = some (baObj buf)) (hz : buf.size ≤ sizeLine)
    (h : ∀ h', h'.get? a = some (baObj #[]) → (∀ c o, c ≠ a → s.heap.get? c = some o → h'.get? c = some o) → Q () { s with heap := h' }) :
    wpC (model prog w) A (delItem (.ref a) (.ref al)) Q s := by
  unfold delItem
  refine C_holding (C_bindK (ba_key ho ?_))
  refine C_bind (C_slot (ba_typeIs ho) slot_ba_delitem entry_ba_delitem (args_ba_delitem _ _) (by decide +kernel) ?_)
  exact ba_delitem_all hl hu hS ho hz fun h' e k => ⟨_, rfl, C_pure (h h' e k)⟩
end
-- the ledger after a store in place
section
variable {h₀ h h' : Heap} {L a : Addr} {m : PySem.Str → Option Value} {o o' : Obj} {news news' : List (Addr × Obj)}
theorem led_put (F : Fr h₀ L h m) (N : News h₀ L h news) (U : Upd a o o' news news') (e : h'.get? a = some o') (k : ∀ c x, c ≠ a → h.get? c = some x → h'.get? c = some x) : Fr h₀ L h' m ∧ News h₀ L h' news' := by
  obtain ⟨pre, post, rfl, rfl, h1, h2⟩ := U.split
  have z := N (a, o) (List.mem_append.mpr (.inr (.head _)))
  obtain ⟨oL, es, ep, hL, hLd, hLk, hLf⟩ := F.ns
  refine ⟨⟨⟨oL, es, ep, k _ _ (Ne.symm z.2.1) hL, hLd, hLk, hLf⟩, fun b x hb => k b x (fun q => ?_) (F.keep b x hb), F.above⟩, fun q hq => ?_⟩
  · rw [q, z.2.2] at hb; cases hb
  · rcases List.mem_append.mp hq with hq | hq
    · have y := N q (List.mem_append_left _ hq)
      exact ⟨k _ _ (h1 q hq) y.1, y.2⟩
    · rcases List.mem_cons.mp hq with rfl | hq
      · exact ⟨e, z.2⟩
      · have y := N q (List.mem_append_right _ (.tail _ hq))
        exact ⟨k _ _ (h2 q hq) y.1, y.2⟩
theorem led_new (F : Fr h₀ L h m) (N : News h₀ L h news) (e : h'.get? h.objs.size = some o') (k : ∀ c x, c ≠ h.objs.size → h.get? c = some x → h'.get? c = some x) : Fr h₀ L h' m ∧ News h₀ L h' ((h.objs.size, o') :: news) := by
  obtain ⟨oL, es, ep, hL, hLd, hLk, hLf⟩ := F.ns
  have fresh : h₀.get? h.objs.size = none := by
    cases q : h₀.get? h.objs.size with
    | none => rfl
    | some x => exact absurd (Heap.lt_size (F.keep _ _ q)) (Nat.lt_irrefl _)
  refine ⟨⟨⟨oL, es, ep, k _ _ (Nat.ne_of_lt (Heap.lt_size hL)) hL, hLd, hLk, hLf⟩, fun b x hb => k b x (Nat.ne_of_lt (Heap.lt_size (F.keep b x hb))) (F.keep b x hb), F.above⟩, fun q hq => ?_⟩
  rcases List.mem_cons.mp hq with rfl | hq
  · exact ⟨e, Ne.symm (Nat.ne_of_lt (Heap.lt_size hL)), fresh⟩
  · have y := N q hq
    exact ⟨k _ _ (Nat.ne_of_lt (Heap.lt_size y.1)) y.1, y.2⟩
end
end Mine
end EzCT
section EzCU
open PySem PySem.W PyProof.Rows PySem.Calls
set_option maxRecDepth 100000
namespace Mine
section
variable {prog : Program} {w : World} {A : Around} {E : Value → Shared → Prop} {s : Shared} {a al : Addr} {buf : Array UInt8} {h₀ : Heap} {L : Addr} {m : PySem.Str → Option Value} {news news' : List (Addr × Obj)} {l u : Value} {hh : Heap} {gg : Array GenState} {dd : Drawn} {tk : Nat} {os : OsState}
theorem ba_set_K {b : Array UInt8} {t : Tok} {Q : Unit → Shared → Prop} (F : Fr h₀ L hh m) (N : News h₀ L hh news) (hl : IsPart l (some (buf.size : Int))) (hu : IsPart u (some ((buf.size + b.size : Nat) : Int))) (hz : buf.size + b.size < 1000000)
    (U : Upd a (baObj buf) (baObj (buf ++ b)) news news') (h : ∀ h', Fr h₀ L h' m → News h₀ L h' news' → Q () ⟨h', gg, dd, tk, os⟩) :
    wpC (model prog w) A (setItem (.ref a) (.ref hh.objs.size) (.bytes b t)) Q ⟨hh.push { cls := .type "slice", data := .fields #[l, u, .none] }, gg, dd, tk, os⟩ := by
  have hm : (a, baObj buf) ∈ news := by
    obtain ⟨pre, post, rfl, _, _, _⟩ := U.split
    exact List.mem_append.mpr (.inr (.head _))
  have F1 := F.push { cls := .type "slice", data := .fields #[l, u, .none] }
  have N1 := News.pushKeep N { cls := .type "slice", data := .fields #[l, u, .none] }
  refine ba_setItem_end hl hu (Heap.IsSliceOf.new _ _ _ _) (N1.get hm) (by rw [sizeLine_eq]; omega) fun h' e k => ?_
  obtain ⟨F2, N2⟩ := led_put F1 N1 U e k
  exact h h' F2 N2
theorem ba_del_K {Q : Unit → Shared → Prop} (F : Fr h₀ L hh m) (N : News h₀ L hh news) (hl : IsPart l (some 0)) (hu : IsPart u none) (hz : buf.size < 1000000)
    (U : Upd a (baObj buf) (baObj #[]) news news') (h : ∀ h', Fr h₀ L h' m → News h₀ L h' news' → Q () ⟨h', gg, dd, tk, os⟩) :
    wpC (model prog w) A (delItem (.ref a) (.ref hh.objs.size)) Q ⟨hh.push { cls := .type "slice", data := .fields #[l, u, .none] }, gg, dd, tk, os⟩ := by
  have hm : (a, baObj buf) ∈ news := by
    obtain ⟨pre, post, rfl, _, _, _⟩ := U.split
    exact List.mem_append.mpr (.inr (.head _))
  have F1 := F.push { cls := .type "slice", data := .fields #[l, u, .none] }
  have N1 := News.pushKeep N { cls := .type "slice", data := .fields #[l, u, .none] }
  refine ba_delItem_all hl hu (Heap.IsSliceOf.new _ _ _ _) (N1.get hm) (by rw [sizeLine_eq]; omega) fun h' e k => ?_
  obtain ⟨F2, N2⟩ := led_put F1 N1 U e k
  exact h h' F2 N2
theorem ba_new_K {Q : Value → Shared → Prop} (F : Fr h₀ L s.heap m) (N : News h₀ L s.heap news) (h : ∀ x h', Fr h₀ L h' m → News h₀ L h' ((x, baObj #[]) :: news) → (∀ p ∈ news, p.1 < x) → Q (.ref x) { s with heap := h' }) :
    wpC (model prog w) A (call (.type "bytearray") []) Q s := by
  refine ba_call0 fun h' e k => ?_
  obtain ⟨F2, N2⟩ := led_new F N e fun c x hc hx => k.extBut c x hc (Heap.get?_push_of_some _ hx)
  exact h _ h' F2 N2 fun p hp => Heap.lt_size (N p hp).1
end
end Mine
end EzCU
section EzBio
open PySem PySem.W PyProof.Rows PySem.Calls
set_option maxRecDepth 100000
namespace Mine
/-- up to and with the first newline, or all -/
def lineOf (l : List UInt8) : List UInt8 := if (10 : UInt8) ∈ l then l.take (l.idxOf 10 + 1) else l
theorem picked_nat (bs : List UInt8) (q p : Nat) : KBy.picked bs.toArray (some (q : Int)) (some (p : Int)) = ((bs.drop q).take (min p bs.length - min q bs.length)).toArray := by
  rw [KBc.picked_eq]
  have c : ∀ k : Nat, clipAt bs.toArray.size (k : Int) = min k bs.length := fun k => by rw [clipAt_nat]; simp
  simp only [Option.elim_some, c]
  congr 2
  rcases Nat.le_total q bs.length with h | h
  · rw [Nat.min_eq_left h]
  · rw [Nat.min_eq_right h, List.drop_of_length_le h]; simp
theorem find_go (l : List UInt8) : ∀ (k : Nat), k ≤ l.length → 
    ((List.range (l.length - k)).map (· + k)).find? (fun i => l[i]? == some 10) = (if (10 : UInt8) ∈ l.drop k then some (k + (l.drop k).idxOf 10) else none) := by
  intro k hk
  induction hn : l.length - k generalizing k with
  | zero =>
    have : k = l.length := by omega
    subst this
    simp
  | succ n ih =>
    have hlt : k < l.length := by omega
    have e : (List.range (n + 1)).map (· + k) = k :: (List.range n).map (· + (k + 1)) := by
      rw [List.range_succ_eq_map]
      simp [List.map_map]
      intro a _
      omega
    rw [e, List.find?_cons]
    have d : l.drop k = l[k] :: l.drop (k + 1) := List.drop_eq_getElem_cons hlt
    rw [List.getElem?_eq_getElem hlt, d]
    by_cases h : l[k] = 10
    · rw [h]
      simp
    · have h' : (some l[k] == some (10 : UInt8)) = false := by simpa using h
      rw [h']
      dsimp only
      rw [ih (k + 1) (by omega) (by omega)]
      have hne : (10 : UInt8) ≠ l[k] := fun q => h q.symm
      simp only [List.mem_cons, hne, false_or]
      split
      · rw [List.idxOf_cons]
        have h2 : (l[k] == (10 : UInt8)) = false := by simpa using h
        rw [h2]
        congr 1
        simp only [cond_false]
        omega
      · rfl
theorem extract_one (l : List UInt8) (i : Nat) : (l.toArray.extract i (i + 1) == #[(10 : UInt8)]) = (l[i]? == some 10) := by
  rw [Bool.eq_iff_iff]
  simp only [beq_iff_eq]
  rw [List.extract_toArray]
  constructor
  · intro h
    have := congrArg Array.toList h
    simp at this
    rcases Nat.lt_or_ge i l.length with hi | hi
    · have hg : (List.take 1 (List.drop i l))[0]? = some 10 := by
        have e : List.take 1 (List.drop i l) = [10] := by simpa using this
        rw [e]; rfl
      rw [List.getElem?_take, List.getElem?_drop] at hg
      simpa using hg
    · rw [List.drop_of_length_le hi] at this
      simp at this
  · intro h
    obtain ⟨hi, h⟩ := List.getElem?_eq_some_iff.mp h
    congr 1
    rw [List.extract_eq_take_drop, List.drop_eq_getElem_cons hi]
    simp [h]
theorem fndAt_eq (l : List UInt8) (lo : Nat) (h : lo ≤ l.length) : fndAt l.toArray lo l.length = if (10 : UInt8) ∈ l.drop lo then ((lo + (l.drop lo).idxOf 10 : Nat) : Int) else -1 := by
  unfold fndAt Builtin.Bytes.find?
  have e : l.length + 1 - (lo + (#[(10 : UInt8)]).size) = l.length - lo := by simp
  rw [e]
  have e2 : (fun i => l.toArray.extract i (i + (#[(10 : UInt8)]).size) == #[(10 : UInt8)]) = fun i => l[i]? == some 10 := by
    funext i
    exact extract_one l i
  rw [e2, find_go l lo h]
  split <;> simp_all
theorem lineOf_le (l : List UInt8) : (lineOf l).length ≤ l.length := by
  unfold lineOf
  split
  · rw [List.length_take]; omega
  · exact Nat.le_refl _
abbrev bioD (h1 h2 : Int) (t1 t2 : Tok) (ba : Addr) (q : Int) (t : Tok) : Obj := dictOf [⟨h1, .str "_BytesIO__buf" t1, .ref ba⟩, ⟨h2, .str "_BytesIO__pos" t2, .int q t⟩] 2
theorem bio_ne {h₀ h : Heap} {L b bd ba : Addr} {h1 h2 : Int} {t1 t2 : Tok} {q : Int} {t : Tok} {buf : Array UInt8} {rest : List (Addr × Obj)} {dx : Addr}
    (N : News h₀ L h ((b, instObj 601 dx) :: (bd, bioD h1 h2 t1 t2 ba q t) :: (ba, baObj buf) :: rest)) : @Ne Nat b bd ∧ @Ne Nat b ba ∧ @Ne Nat bd ba := by
  have e1 := N.get (.head _)
  have e2 := N.get (.tail _ (.head _))
  have e3 := N.get (.tail _ (.tail _ (.head _)))
  refine ⟨?_, ?_, ?_⟩
  · rintro rfl; rw [e1] at e2; cases e2
  · rintro rfl; rw [e1] at e3; cases e3
  · rintro rfl; rw [e2] at e3; exact absurd (congrArg (fun o => o.map Obj.cls) e3) (by simp)
theorem rd_val0 {bs : List UInt8} {q i : Nat} (h : bs.length ≤ q) : (#[] : Array UInt8) = ((bs.drop q).take i).toArray := by
  rw [List.drop_of_length_le h]; simp
theorem rd_val1 {bs : List UInt8} {q i : Nat} (h : q + i < bs.length) : KBy.picked bs.toArray (some (q : Int)) (some ((q : Int) + (i : Int))) = ((bs.drop q).take i).toArray := by
  have e : (q : Int) + (i : Int) = ((q + i : Nat) : Int) := by omega
  rw [e, picked_nat]
  congr 2
  omega
theorem rd_val2 {bs : List UInt8} {q i : Nat} (h : bs.length ≤ q + i) : KBy.picked bs.toArray (some (q : Int)) (some (bs.toArray.size : Int)) = ((bs.drop q).take i).toArray := by
  rw [List.size_toArray, picked_nat]
  congr 1
  rw [List.take_of_length_le, List.take_of_length_le] <;> rw [List.length_drop] <;> omega
theorem line_len {bs : List UInt8} {q : Nat} : (lineOf (bs.drop q)).length = if (10 : UInt8) ∈ bs.drop q then (bs.drop q).idxOf 10 + 1 else bs.length - q := by
  unfold lineOf
  split
  · rename_i h
    have := List.idxOf_lt_length_of_mem h
    rw [List.length_take]
    omega
  · rw [List.length_drop]
theorem line_val0 {bs : List UInt8} {q : Nat} (h : bs.length ≤ q) : (#[] : Array UInt8) = (lineOf (bs.drop q)).toArray := by
  rw [List.drop_of_length_le h]; rfl
theorem line_hit {bs : List UInt8} {q : Nat} (hq : q ≤ bs.length) (h : 0 ≤ fndAt bs.toArray q bs.length) : fndAt bs.toArray q bs.length + 1 = ((q + (lineOf (bs.drop q)).length : Nat) : Int) ∧ q + (lineOf (bs.drop q)).length ≤ bs.length := by
  rw [fndAt_eq _ _ hq] at h ⊢
  have l1 := lineOf_le (bs.drop q)
  rw [List.length_drop] at l1
  rw [line_len]
  rw [line_len] at l1
  split
  · rename_i hm
    rw [if_pos hm] at l1
    refine ⟨by omega, by omega⟩
  · rename_i hm
    rw [if_neg hm] at h
    omega
theorem line_miss {bs : List UInt8} {q : Nat} (hq : q ≤ bs.length) (h : ¬ 0 ≤ fndAt bs.toArray q bs.length) : (bs.length : Int) = ((q + (lineOf (bs.drop q)).length : Nat) : Int) := by
  rw [fndAt_eq _ _ hq] at h
  rw [line_len]
  split
  · rename_i hm
    rw [if_pos hm] at h
    omega
  · omega
theorem lineOf_take (l : List UInt8) : l.take (lineOf l).length = lineOf l := by
  unfold lineOf
  split
  · rename_i h
    rw [List.length_take]
    have := List.idxOf_lt_length_of_mem h
    congr 1
    omega
  · exact List.take_length
theorem line_val {bs : List UInt8} {q : Nat} {z : Int} (hq : q ≤ bs.length) (h : z = ((q + (lineOf (bs.drop q)).length : Nat) : Int)) : KBy.picked bs.toArray (some (q : Int)) (some z) = (lineOf (bs.drop q)).toArray := by
  have l1 := lineOf_le (bs.drop q)
  rw [List.length_drop] at l1
  rw [h, picked_nat]
  congr 1
  rw [show min (q + (lineOf (bs.drop q)).length) bs.length - min q bs.length = (lineOf (bs.drop q)).length by omega]
  exact lineOf_take _
end Mine
end EzBio
section EzAt
open PySem PySem.W PyProof.Rows PySem.Calls
namespace Mine
set_option maxRecDepth 100000
set_option maxHeartbeats 8000000
local macro_rules | `(tactic| k_fill) => `(tactic| (k_with_none))
theorem law_at_does (w : World) (p : Program) (loose : List Str) (mean : ExcName → Option Value) (mg mb : Str → Option Value) (l : Addr) (vs : List Value) (ns : List Int) (hi : IntsAre vs ns) (hlen : ns.length ≤ 63) (k : Int) (hk0 : 0 ≤ k) (hk1 : k < 1000000) (u : Tok) :
    Does (frag.heap_1 w.params) PySem.Challenge.rw_ez0337_01.row.prog w p loose mean mg mb 1 1125 [.ref l, .int k u] [] [] (fun g => g.IsList l vs.toArray) (fun _ v _ => ∃ z t, v = .int z t) := by
  k_fill
  intro dp un gd outer base g A₀ s R B st X T hW hsz hPre hd hu kont
  refine' enter st X T hW hsz ?ho ?hcd ?hroom ?hbind ?hloc ?_ ?c2 ?c3 ?c4 ?c5
  case ho => k_is
  case hcd => k_is
  case hroom => omega
  case hbind => exact BindsTo.of_eq rfl
  case hloc => exact locs rfl
  case c2 => rfl
  case c3 => rfl
  case c4 => rfl
  case c5 => decide
  intro L' h₁ F N hlt
  dsimp only
  k_steps
  all_goals (try dsimp only)
  all_goals exact kont _ _ _ (Fr.keep (by assumption)) ⟨_, _, rfl⟩
end Mine
end EzAt
section EzNum
open PySem PySem.W PyProof.Rows PySem.Calls PySem.NumText
set_option maxRecDepth 100000
namespace Mine
abbrev txt (n : Int) : PySem.Str := PySem.Str.ofString (toString n)
/-- the digits of a number, as octets -/
def nb (n : Int) : List UInt8 := (txt n).cps.toList.map Nat.toUInt8
theorem neg_cps (m : Nat) : (PySem.Str.ofString (toString (-((m + 1 : Nat) : Int)))).cps.toList = 45 :: (Nat.toDigits 10 (m + 1)).map Char.toNat := by
  rw [signs_ofString]
  have e : toString (-((m + 1 : Nat) : Int)) = "-" ++ Nat.repr (m + 1) := rfl
  rw [e, String.toList_append, Nat.toList_repr]
  rfl
theorem digits_all (m : Nat) : AllDigits ((Nat.toDigits 10 m).map Char.toNat) := by
  intro c hc
  obtain ⟨ch, hch, e⟩ := List.mem_map.mp hc
  have r := digit_range (Nat.isDigit_of_mem_toDigits (by decide) (by decide) hch)
  rw [← e]
  exact r
theorem int_cases (n : Int) : (∃ m : Nat, n = m) ∨ ∃ m : Nat, n = -((m + 1 : Nat) : Int) := by
  cases n with
  | ofNat m => exact .inl ⟨m, rfl⟩
  | negSucc m => exact .inr ⟨m, rfl⟩
theorem txt_signs (n : Int) : ∀ c ∈ (txt n).cps.toList, c = 45 ∨ (48 ≤ c ∧ c ≤ 57) := by
  intro c hc
  rcases int_cases n with ⟨m, rfl⟩ | ⟨m, rfl⟩
  · rw [KIN.signs_num] at hc
    exact .inr (digits_all m c hc)
  · rw [neg_cps] at hc
    rcases List.mem_cons.mp hc with rfl | hc
    · exact .inl rfl
    · exact .inr (digits_all _ c hc)
theorem str_len (x : PySem.Str) : x.cps.toList.length = x.length := Array.length_toList
theorem digits_len {m : Nat} (h : m < 10 ^ 10) : 1 ≤ (Nat.toDigits 10 m).length ∧ (Nat.toDigits 10 m).length ≤ 10 := by
  have l := KT.len_num (n := ((m : Nat) : Int)) (by omega) (by exact_mod_cast h)
  rw [← str_len, KIN.signs_num, List.length_map] at l
  exact ⟨toDigits_len_ge 10 m, l⟩
theorem nb_len {n : Int} (h1 : -(10 ^ 9) < n) (h2 : n < 10 ^ 9) : 1 ≤ (nb n).length ∧ (nb n).length ≤ 11 := by
  unfold nb
  rw [List.length_map]
  rcases int_cases n with ⟨m, rfl⟩ | ⟨m, rfl⟩
  · have l := digits_len (m := m) (by omega)
    rw [KIN.signs_num, List.length_map]
    omega
  · have l := digits_len (m := m + 1) (by omega)
    rw [neg_cps, List.length_cons, List.length_map]
    omega
theorem back8 {c : Nat} (h : c < 256) : (c.toUInt8).toNat = c := by
  first
    | (show (UInt8.ofNat c).toNat = c; rw [UInt8.toNat_ofNat']; omega)
    | (simp; omega)
theorem nb_back (n : Int) : (nb n).map (·.toNat) = (txt n).cps.toList := by
  unfold nb
  rw [List.map_map]
  have : ∀ c ∈ (txt n).cps.toList, ((fun x : UInt8 => x.toNat) ∘ Nat.toUInt8) c = c := fun c hc => back8 (by have := txt_signs n c hc; omega)
  conv => rhs; rw [← List.map_id (txt n).cps.toList]
  exact List.map_congr_left this
theorem nb_mem {n : Int} {x : UInt8} (h : x ∈ nb n) : x.toNat = 45 ∨ (48 ≤ x.toNat ∧ x.toNat ≤ 57) := by
  have : x.toNat ∈ (txt n).cps.toList := by rw [← nb_back]; exact List.mem_map_of_mem h
  exact txt_signs n _ this
theorem nb_no10 (n : Int) : (10 : UInt8) ∉ nb n := fun h => by have := nb_mem h; revert this; decide
theorem nb_not (n : Int) (h0 : 0 ≤ n) (r : List UInt8) : nb n ≠ 45 :: r := by
  intro e
  obtain ⟨m, rfl⟩ := Int.eq_ofNat_of_zero_le h0
  have h : (45 : Nat) ∈ (txt ((m : Nat) : Int)).cps.toList := by
    rw [← nb_back, e]; exact List.mem_cons_self
  rw [KIN.signs_num] at h
  have := digits_all m 45 h
  omega
theorem txt_reads {n : Int} (h1 : -(10 ^ 9) < n) (h2 : n < 10 ^ 9) : PySem.intText? (txt n) = some n := by
  rcases int_cases n with ⟨m, rfl⟩ | ⟨m, rfl⟩
  · exact KIN.num_reads (by omega) (by omega)
  · have l := digits_len (m := m + 1) (by omega)
    have e := intText_neg (neg_cps m) (digits_all _) (by intro q; have := l.1; rw [← List.length_map (f := Char.toNat), q] at this; exact absurd this (by decide)) (by
      show (txt (-((m + 1 : Nat) : Int))).length ≤ 4300
      rw [← str_len, neg_cps, List.length_cons, List.length_map]; omega)
    rw [KIN.val_back] at e
    exact e
theorem by_int : typeLookup (.type "bytes") "__int__" = pure none := by rw [typeLookup_type, builtinLookup_eq_fast]; kernel_rfl
theorem by_idx : typeLookup (.type "bytes") "__index__" = pure none := by rw [typeLookup_type, builtinLookup_eq_fast]; kernel_rfl
theorem by_trunc : typeLookup (.type "bytes") "__trunc__" = pure none := by rw [typeLookup_type, builtinLookup_eq_fast]; kernel_rfl
theorem gives_intB {b : List UInt8} {u : Tok} {n : Int} (h1 : -(10 ^ 9) < n) (h2 : n < 10 ^ 9) (hb : b.map (·.toNat) = (txt n).cps.toList) : Gives (Builtin.«int.__new__» ⟨[.type "int", .bytes b.toArray u], []⟩) (.int n) :=
  .of_wp fun M A E s Q h => by
    obtain ⟨hp, g, d, tk, os⟩ := s
    have f1 := F.conv_sub_int
    have f2 := F.madeHere_int
    have f3 := by_int
    have f4 := by_idx
    have f5 := by_trunc
    have f6 : typeOf (.bytes b.toArray u) = pure (.type "bytes") := rfl
    have hl : (txt n).length ≤ 640 := by
      rw [← str_len, ← nb_back, List.length_map]; have := nb_len h1 h2; omega
    have hx := numText_signs (txt_signs n)
    have hs : (numSeenOf (txt n)).length ≤ 640 := Nat.le_trans (seen_length _) hl
    have hr : (int_private% "readNumeral") 0 10 ((b.map (·.toNat)).takeWhile (· != 0)) = (int_private% "Numeral.value") n ∧ (((b.map (·.toNat)).takeWhile (· != 0)).length == (b.map (·.toNat)).length) = true := by
      rcases read0 (txt n) hs with ⟨m, h1', h2', h3'⟩ | ⟨h1', _⟩
      · rw [txt_reads h1 h2] at h1'
        injection h1' with h1'
        subst h1'
        rw [hb]
        rw [← hx.1]
        exact ⟨h3', h2'⟩
      · rw [txt_reads h1 h2] at h1'
        cases h1'
    have hs' : ((b.map (·.toNat)).takeWhile (· != 0)).length ≤ 640 := by rw [hb]; rw [← hx.1]; exact hs
    have hk := KIN.Hid.mk (And.intro hs' hr)
    clear hs hr hl hs' hx hb
    repeat (any_goals (first
      | assumption
      | ((with_reducible show wpAny _ _ ((int_private% "intFromText") _ _ _) _ _ _); refine KIN.wp_text hk.out.1 hk.out.2.1 hk.out.2.2 ?_)
      | wp_step))
    all_goals first | exact ⟨_, rfl, h⟩ | skip
section
variable {prog : Program} {w : World} {A : Around} {E : Value → Shared → Prop} {s : Shared} {Q : Value → Shared → Prop} {t : Tok} {n : Int}
theorem call_intB (h1 : -(10 ^ 9) < n) (h2 : n < 10 ^ 9) (h : ∀ t' k, Q (.int n t') { s with toks := k }) : wpAny (model prog w) A (call (.type "int") [.bytes (nb n).toArray t]) Q E s :=
  call_int_1 (gives_intB h1 h2 (nb_back n)).meets (show (Made.int n).post _ s from ⟨rfl, h _ _⟩)
end
end Mine
end EzNum
section EzIOC
open PySem PySem.W PyProof.Rows PySem.Calls
namespace Mine
set_option maxRecDepth 100000
set_option maxHeartbeats 1000000
local macro_rules | `(tactic| k_in) => `(tactic| first | k_in_fast | exact Frag.In.keeps (by k_asm) (Fr.keep (by k_asm)))
local macro_rules | `(tactic| k_room) => `(tactic| ktr_room)
local macro_rules | `(tactic| k_units) => `(tactic| ktr_units)
local macro_rules | `(tactic| k_fill) => `(tactic| (k_with_none; (k_with "eval Name" => (k_here; k_dflt (first | (refine' nameX_K ?F ?X ?T ?e ?_ ?a ?b ?c; (case F => k_asm); (case X => k_asm); (case T => k_asm); (case e => k_is); (case a => kernel_rfl); (case b => kernel_rfl); (case c => kernel_rfl); k_whole) | (refine' nameX_C ?N ?h ?m ?d ?_ ?a ?b ?c; (case h => rfl); (case N => k_asm); (case m => k_mem); (case d => k_asm); (case a => kernel_rfl); (case b => kernel_rfl); (case c => kernel_rfl); k_whole) | (refine' nameX_L ?F ?v ?_ ?a ?b ?c; (case F => k_asm); (case v => rfl); (case a => kernel_rfl); (case b => kernel_rfl); (case c => kernel_rfl); k_whole) | (refine' nameX_B ?F ?X ?T ?e ?v ?n ?_ ?a ?b ?c; (case F => k_asm); (case X => k_asm); (case T => k_asm); (case e => k_is); (case v => boot_fast); (case n => decide); (case a => kernel_rfl); (case b => kernel_rfl); (case c => kernel_rfl); k_whole)))); (k_with "ite" => (k_closed; first | (refine ite_pos ?h ?_; (case h => k_dflt (decide +kernel))) | (refine ite_neg ?h ?_; (case h => k_dflt (decide +kernel))))); (k_with "call builtin:len" => (k_here; (with_reducible show wpAny _ _ (call (Value.builtin "len") [Value.ref _]) _ _ _); k_dflt (refine' ba_len_K ?k1 ?k2 ?k3 ?_; (case k1 => k_asm); (case k2 => k_mem); (case k3 => omega); k_whole); intro t' k')); (k_with "call type:bytes" => (k_here; (with_reducible show wpAny _ _ (call (Value.type "bytes") [Value.ref _]) _ _ _); k_dflt (refine' ba_bytes_K ?k1 ?k2 ?k3 ?_; (case k1 => k_asm); (case k2 => k_mem); (case k3 => exact Nat.lt_of_le_of_lt (KBc.size_picked_le _ _ _) (by omega)); k_whole); intro t' k')); (k_with "subscriptTail" => (k_here; (with_reducible show wpAny _ _ (subscriptTail _ _ (Value.ref _) (Value.ref _)) _ _ _); k_dflt (refine' ba_slice_K ?k1 ?k2 ?k3 ?k4 ?k5 ?k6 ?_ ?k7 ?k8; (case k1 => k_asm); (case k2 => k_asm); (case k3 => k_mem); (case k4 => constructor); (case k5 => constructor); (case k6 => omega); (case k7 => with_unfolding_all rfl); (case k8 => intro _; with_unfolding_all rfl); k_whole); intro x' h' F' N' l1; (try k_lt l1); (try k_sweep))); (k_with "getMethod ref" => (k_here; (with_reducible show wpAny _ _ (getMethod (Value.ref _) (PySem.Str.ofString "find") _) _ _ _); k_dflt (refine' ba_method_K ?k1 ?k2 ?_; (case k1 => k_asm); (case k2 => k_mem); k_whole))); (k_with "call builtin:bytearray.find" => (k_here; k_dflt (refine' ba_find_K ?k1 ?k2 ?k3 ?k4 ?k5 ?_; (case k1 => k_asm); (case k2 => k_mem); (case k3 => omega); (case k4 => omega); (case k5 => omega); k_whole); intro t')); (k_with "call type:type" => ((with_reducible show wpAny _ _ (call _ [Value.bytes _ _]) _ _ _); refine call_type_of (Tx := "bytes") (typeIs_bytes _ _ _) (by decide +kernel) ?_))))
theorem write_does (w : World) (p : Program) (loose : List Str) (mean : ExcName → Option Value) (mg mb : Str → Option Value) (b bd ba : Addr) (h1 h2 : Int) (t1 t2 : Tok) (bs : List UInt8) (t : Tok) (hb : bs.length < 500000) (o : List UInt8) (ho : 0 < o.length) (ho' : o.length < 100000) (u : Tok) (qz : Int) (hqz : qz = ((bs.length : Nat) : Int)) :
    DoesC (Mine.frag.heap_1 w.params) PySem.Challenge.rw_ez0337_01.row.prog w p loose mean mg mb 6 584 [.ref b, .bytes o.toArray u] [] [(b, instObj 601 bd), (bd, bioD h1 h2 t1 t2 ba qz t), (ba, baObj bs.toArray)] (fun _ => True) (fun _ v h' => ∃ z t' bb, z = ((bs.length + o.length : Nat) : Int) ∧ (∃ z tb, v = .int z tb ∧ z = (o.length : Int)) ∧ bb = (bs ++ o).toArray ∧ h'.get? b = some (instObj 601 bd) ∧ h'.get? bd = some (bioD h1 h2 t1 t2 ba z t') ∧ h'.get? ba = some (baObj bb)) := by
  k_fill
  intro dp un gd outer base g A₀ s R B st X T hW hsz hPre hd hu kont
  subst hqz
  refine' enterC st X T hW hsz ?ho ?hcd ?hroom ?hbind ?hloc ?_ ?c2 ?c3 ?c4 ?c5
  case ho => k_is
  case hcd => k_is
  case hroom => omega
  case hbind => first | exact BindsTo.of_eq rfl | exact binds_K (X.keeps fun b o e => st b o e) rfl (by k_is) rfl rfl rfl
  case hloc => exact locs rfl
  case c2 => rfl
  case c3 => rfl
  case c4 => rfl
  case c5 => decide
  intro L' h₁ F N hlt
  (try k_lt hlt)
  dsimp only
  obtain ⟨n1, n2, n3⟩ := bio_ne N
  have z0 : bs.toArray.size = bs.length := List.size_toArray ..
  have z1 : o.toArray.size = o.length := List.size_toArray ..
  refine C_consK ?_
  k_steps
  all_goals (try dsimp only)
  refine C_consK ?_
  k_steps
  all_goals (try dsimp only)
  refine C_consK ?_
  k_steps
  all_goals (try dsimp only)
  refine C_consK ?_
  k_steps
  all_goals (try dsimp only)
  all_goals (try (exfalso; omega))
  refine C_consK ?_
  k_steps
  all_goals (try dsimp only)
  refine C_consK ?_
  k_steps
  all_goals (try dsimp only)
  all_goals (try (exfalso; omega))
  refine C_consK ?_
  k_steps
  all_goals (try dsimp only)
  all_goals (try (exfalso; omega))
  refine C_cons (C_Assign_Sub ?_)
  k_steps
  (try dsimp only)
  refine' ba_set_K ?k1 ?k2 ?k3 ?k4 ?k5 ?k6 ?_
  case k1 => k_asm
  case k2 => k_asm
  case k3 => rw [List.size_toArray]; constructor
  case k4 => rw [List.size_toArray, List.size_toArray]; constructor
  case k5 => omega
  case k6 => k_upd
  intro h' F' N'
  k_sweep
  (try dsimp only)
  refine C_of ?_
  k_steps
  all_goals (try dsimp only)
  all_goals (refine kont _ _ _ (Fr.keep (by assumption)) ⟨_, _, _, ?_, ?_, ?_, News.get (by assumption) (by k_mem), News.get (by assumption) (by k_mem), News.get (by assumption) (by k_mem)⟩)
  all_goals (first | (refine ⟨_, _, rfl, ?_⟩; omega) | omega | simp)

theorem trunc_does (w : World) (p : Program) (loose : List Str) (mean : ExcName → Option Value) (mg mb : Str → Option Value) (b bd ba : Addr) (h1 h2 : Int) (t1 t2 : Tok) (bs : List UInt8) (q : Nat) (t : Tok) (hb : bs.length < 500000) (u : Tok) :
    DoesC (Mine.frag.heap_1 w.params) PySem.Challenge.rw_ez0337_01.row.prog w p loose mean mg mb 6 517 [.ref b, .int 0 u] [] [(b, instObj 601 bd), (bd, bioD h1 h2 t1 t2 ba (q : Int) t), (ba, baObj bs.toArray)] (fun _ => True) (fun _ v h' => ∃ z t' bb, z = ((q : Nat) : Int) ∧ (∃ z tb, v = .int z tb ∧ z = 0) ∧ bb = (([] : List UInt8)).toArray ∧ h'.get? b = some (instObj 601 bd) ∧ h'.get? bd = some (bioD h1 h2 t1 t2 ba z t') ∧ h'.get? ba = some (baObj bb)) := by
  k_fill
  intro dp un gd outer base g A₀ s R B st X T hW hsz hPre hd hu kont
  refine' enterC st X T hW hsz ?ho ?hcd ?hroom ?hbind ?hloc ?_ ?c2 ?c3 ?c4 ?c5
  case ho => k_is
  case hcd => k_is
  case hroom => omega
  case hbind => first | exact BindsTo.of_eq rfl | exact binds_K (X.keeps fun b o e => st b o e) rfl (by k_is) rfl rfl rfl
  case hloc => exact locs rfl
  case c2 => rfl
  case c3 => rfl
  case c4 => rfl
  case c5 => decide
  intro L' h₁ F N hlt
  (try k_lt hlt)
  dsimp only
  obtain ⟨n1, n2, n3⟩ := bio_ne N
  have z0 : bs.toArray.size = bs.length := List.size_toArray ..
  refine C_consK ?_
  k_steps
  all_goals (try dsimp only)
  refine C_consK ?_
  k_steps
  all_goals (try dsimp only)
  refine C_consK ?_
  k_steps
  all_goals (try dsimp only)
  refine C_consK ?_
  k_steps
  all_goals (try dsimp only)
  refine C_cons (C_If ?_)
  k_steps
  · refine C_cons (C_Delete_Sub ?_)
    k_steps
    (try dsimp only)
    refine' ba_del_K ?k1 ?k2 ?k3 ?k4 ?k5 ?k6 ?_
    case k1 => k_asm
    case k2 => k_asm
    case k3 => constructor
    case k4 => constructor
    case k6 => k_upd
    case k5 => omega
    intro h' F' N'
    k_sweep
    refine C_nil ?_
    refine C_of ?_
    k_steps
    all_goals (try dsimp only)
    all_goals (refine kont _ _ _ (Fr.keep (by assumption)) ⟨_, _, _, ?_, ?_, ?_, News.get (by assumption) (by k_mem), News.get (by assumption) (by k_mem), News.get (by assumption) (by k_mem)⟩)
    all_goals (first | (refine ⟨_, _, rfl, ?_⟩; omega) | omega | simp)
  · refine C_nil ?_
    refine C_of ?_
    have e0 : bs = [] := List.eq_nil_of_length_eq_zero (by omega)
    subst e0
    k_steps
    all_goals (try dsimp only)
    all_goals (refine kont _ _ _ (Fr.keep (by assumption)) ⟨_, _, _, ?_, ?_, ?_, News.get (by assumption) (by k_mem), News.get (by assumption) (by k_mem), News.get (by assumption) (by k_mem)⟩)
    all_goals (first | (refine ⟨_, _, rfl, ?_⟩; omega) | omega | simp)

theorem init_does (w : World) (p : Program) (loose : List Str) (mean : ExcName → Option Value) (mg mb : Str → Option Value) (x dx : Addr) (hx : @Ne Nat x dx) :
    DoesC (Mine.frag.heap_1 w.params) PySem.Challenge.rw_ez0337_01.row.prog w p loose mean mg mb 6 388 [.ref x] [] [(x, instObj 601 dx), (dx, dictOf [] 0)] (fun _ => True) (fun g v h' => v = .none ∧ ∃ h1 h2 t1 t2 ba t, h'.get? x = some (instObj 601 dx) ∧ h'.get? dx = some (bioD h1 h2 t1 t2 ba 0 t) ∧ h'.get? ba = some (baObj #[]) ∧ g.get? ba = none) := by
  k_fill
  intro dp un gd outer base g A₀ s R B st X T hW hsz hPre hd hu kont
  refine' enterC st X T hW hsz ?ho ?hcd ?hroom ?hbind ?hloc ?_ ?c2 ?c3 ?c4 ?c5
  case ho => k_is
  case hcd => k_is
  case hroom => omega
  case hbind => first | exact BindsTo.of_eq rfl | exact binds_K (X.keeps fun b o e => st b o e) rfl (by k_is) rfl rfl rfl
  case hloc => exact locs rfl
  case c2 => rfl
  case c3 => rfl
  case c4 => rfl
  case c5 => decide
  intro L' h₁ F N hlt
  (try k_lt hlt)
  dsimp only
  refine C_consK ?_
  k_steps
  all_goals (try dsimp only)
  refine C_cons (C_Assign_Attr (C_IfExp ?_))
  k_steps
  refine C_Call_Name ?_
  k_steps
  refine C_callType0 ?_
  refine' ba_new_K ?k1 ?k2 ?_
  case k1 => k_asm
  case k2 => k_asm
  intro ba' h' F' N' l1
  k_lt l1
  k_sweep
  k_steps
  (try dsimp only)
  refine C_of ?_
  k_steps
  dsimp only
  exact kont _ _ _ (Fr.keep (by assumption)) ⟨rfl, _, _, _, _, _, _, News.get (by assumption) (by k_mem), News.get (by assumption) (by k_mem), News.get (by assumption) (List.Mem.head _), News.fresh (by assumption) (List.Mem.head _)⟩

end Mine
end EzIOC
section EzIO
open PySem PySem.W PyProof.Rows PySem.Calls
namespace Mine
set_option maxRecDepth 100000
set_option maxHeartbeats 1000000
local macro_rules | `(tactic| k_in) => `(tactic| first | k_in_fast | exact Frag.In.keeps (by k_asm) (Fr.keep (by k_asm)))
local macro_rules | `(tactic| k_room) => `(tactic| ktr_room)
local macro_rules | `(tactic| k_units) => `(tactic| ktr_units)
local macro_rules | `(tactic| k_fill) => `(tactic| (k_with_none; (k_with "eval Name" => (k_here; k_dflt (first | (refine' nameX_K ?F ?X ?T ?e ?_ ?a ?b ?c; (case F => k_asm); (case X => k_asm); (case T => k_asm); (case e => k_is); (case a => kernel_rfl); (case b => kernel_rfl); (case c => kernel_rfl); k_whole) | (refine' nameX_C ?N ?h ?m ?d ?_ ?a ?b ?c; (case h => rfl); (case N => k_asm); (case m => k_mem); (case d => k_asm); (case a => kernel_rfl); (case b => kernel_rfl); (case c => kernel_rfl); k_whole) | (refine' nameX_L ?F ?v ?_ ?a ?b ?c; (case F => k_asm); (case v => rfl); (case a => kernel_rfl); (case b => kernel_rfl); (case c => kernel_rfl); k_whole) | (refine' nameX_B ?F ?X ?T ?e ?v ?n ?_ ?a ?b ?c; (case F => k_asm); (case X => k_asm); (case T => k_asm); (case e => k_is); (case v => boot_fast); (case n => decide); (case a => kernel_rfl); (case b => kernel_rfl); (case c => kernel_rfl); k_whole)))); (k_with "ite" => (k_closed; first | (refine ite_pos ?h ?_; (case h => k_dflt (decide +kernel))) | (refine ite_neg ?h ?_; (case h => k_dflt (decide +kernel))))); (k_with "call builtin:len" => (k_here; (with_reducible show wpAny _ _ (call (Value.builtin "len") [Value.ref _]) _ _ _); k_dflt (refine' ba_len_K ?k1 ?k2 ?k3 ?_; (case k1 => k_asm); (case k2 => k_mem); (case k3 => omega); k_whole); intro t' k')); (k_with "call type:bytes" => (k_here; (with_reducible show wpAny _ _ (call (Value.type "bytes") [Value.ref _]) _ _ _); k_dflt (refine' ba_bytes_K ?k1 ?k2 ?k3 ?_; (case k1 => k_asm); (case k2 => k_mem); (case k3 => exact Nat.lt_of_le_of_lt (KBc.size_picked_le _ _ _) (by omega)); k_whole); intro t' k')); (k_with "subscriptTail" => (k_here; (with_reducible show wpAny _ _ (subscriptTail _ _ (Value.ref _) (Value.ref _)) _ _ _); k_dflt (refine' ba_slice_K ?k1 ?k2 ?k3 ?k4 ?k5 ?k6 ?_ ?k7 ?k8; (case k1 => k_asm); (case k2 => k_asm); (case k3 => k_mem); (case k4 => constructor); (case k5 => constructor); (case k6 => omega); (case k7 => with_unfolding_all rfl); (case k8 => intro _; with_unfolding_all rfl); k_whole); intro x' h' F' N' l1; (try k_lt l1); (try k_sweep))); (k_with "getMethod ref" => (k_here; (with_reducible show wpAny _ _ (getMethod (Value.ref _) (PySem.Str.ofString "find") _) _ _ _); k_dflt (refine' ba_method_K ?k1 ?k2 ?_; (case k1 => k_asm); (case k2 => k_mem); k_whole))); (k_with "call builtin:bytearray.find" => (k_here; k_dflt (refine' ba_find_K ?k1 ?k2 ?k3 ?k4 ?k5 ?_; (case k1 => k_asm); (case k2 => k_mem); (case k3 => omega); (case k4 => omega); (case k5 => omega); k_whole); intro t'))))
theorem read_does (w : World) (p : Program) (loose : List Str) (mean : ExcName → Option Value) (mg mb : Str → Option Value) (b bd ba : Addr) (h1 h2 : Int) (t1 t2 : Tok) (bs : List UInt8) (q : Nat) (t : Tok) (hq : q ≤ bs.length) (hb : bs.length < 1000000) (i : Nat) (hi : i < 1000000) (u : Tok) :
    Does (Mine.frag.heap_1 w.params) PySem.Challenge.rw_ez0337_01.row.prog w p loose mean mg mb 5 525 [.ref b, .int i u] [] [(b, instObj 601 bd), (bd, bioD h1 h2 t1 t2 ba q t), (ba, baObj bs.toArray)] (fun _ => True) (fun _ v h' => ∃ z t', z = ((q + ((bs.drop q).take i).length : Nat) : Int) ∧ (∃ o tb, v = .bytes o tb ∧ o = ((bs.drop q).take i).toArray) ∧ h'.get? b = some (instObj 601 bd) ∧ h'.get? bd = some (bioD h1 h2 t1 t2 ba z t') ∧ h'.get? ba = some (baObj (bs).toArray)) := by
  k_fill
  intro dp un gd outer base g A₀ s R B st X T hW hsz hPre hd hu kont
  refine' enter st X T hW hsz ?ho ?hcd ?hroom ?hbind ?hloc ?_ ?c2 ?c3 ?c4 ?c5
  case ho => k_is
  case hcd => k_is
  case hroom => omega
  case hbind => first | exact BindsTo.of_eq rfl | exact binds_K (X.keeps fun b o e => st b o e) rfl (by k_is) rfl rfl rfl
  case hloc => exact locs rfl
  case c2 => rfl
  case c3 => rfl
  case c4 => rfl
  case c5 => decide
  intro L' h₁ F N hlt
  (try k_lt hlt)
  dsimp only
  obtain ⟨n1, n2, n3⟩ := bio_ne N
  have z0 : bs.toArray.size = bs.length := List.size_toArray ..
  k_steps
  all_goals (try dsimp only)
  all_goals (refine kont _ _ _ (Fr.keep (by assumption)) ⟨_, _, ?_, ?_, News.get (by assumption) (by k_mem), News.get (by assumption) (by k_mem), News.get (by assumption) (by k_mem)⟩)
  all_goals (first
    | (refine ⟨_, _, rfl, ?_⟩; first | (with_reducible refine rd_val0 ?_; omega) | (with_reducible refine rd_val1 ?_; omega) | (with_reducible refine rd_val2 ?_; omega))
    | (simp only [List.length_take, List.length_drop, List.size_toArray]; omega))

theorem readline_does (w : World) (p : Program) (loose : List Str) (mean : ExcName → Option Value) (mg mb : Str → Option Value) (b bd ba : Addr) (h1 h2 : Int) (t1 t2 : Tok) (bs : List UInt8) (q : Nat) (t : Tok) (hq : q ≤ bs.length) (hb : bs.length < 1000000) :
    Does (Mine.frag.heap_1 w.params) PySem.Challenge.rw_ez0337_01.row.prog w p loose mean mg mb 5 555 [.ref b] [] [(b, instObj 601 bd), (bd, bioD h1 h2 t1 t2 ba q t), (ba, baObj bs.toArray)] (fun _ => True) (fun _ v h' => ∃ z t', z = ((q + (lineOf (bs.drop q)).length : Nat) : Int) ∧ (∃ o tb, v = .bytes o tb ∧ o = (lineOf (bs.drop q)).toArray) ∧ h'.get? b = some (instObj 601 bd) ∧ h'.get? bd = some (bioD h1 h2 t1 t2 ba z t') ∧ h'.get? ba = some (baObj (bs).toArray)) := by
  k_fill
  intro dp un gd outer base g A₀ s R B st X T hW hsz hPre hd hu kont
  refine' enter st X T hW hsz ?ho ?hcd ?hroom ?hbind ?hloc ?_ ?c2 ?c3 ?c4 ?c5
  case ho => k_is
  case hcd => k_is
  case hroom => omega
  case hbind => first | exact BindsTo.of_eq rfl | exact binds_K (X.keeps fun b o e => st b o e) rfl (by k_is) rfl rfl rfl
  case hloc => exact locs rfl
  case c2 => rfl
  case c3 => rfl
  case c4 => rfl
  case c5 => decide
  intro L' h₁ F N hlt
  (try k_lt hlt)
  dsimp only
  obtain ⟨n1, n2, n3⟩ := bio_ne N
  have z0 : bs.toArray.size = bs.length := List.size_toArray ..
  k_steps
  all_goals (try dsimp only)
  all_goals (refine kont _ _ _ (Fr.keep (by assumption)) ⟨_, _, ?_, ?_, News.get (by assumption) (by k_mem), News.get (by assumption) (by k_mem), News.get (by assumption) (by k_mem)⟩)
  all_goals (have z2 : ((bs.toArray.size : Int)).toNat = bs.length := z0)
  all_goals (have l1 : 0 ≤ fndAt bs.toArray ((q : Int)).toNat ((bs.toArray.size : Int)).toNat → fndAt bs.toArray ((q : Int)).toNat ((bs.toArray.size : Int)).toNat + 1 = ((q + (lineOf (bs.drop q)).length : Nat) : Int) ∧ q + (lineOf (bs.drop q)).length ≤ bs.length := by rw [z2]; exact line_hit hq)
  all_goals (have l2 : ¬ 0 ≤ fndAt bs.toArray ((q : Int)).toNat ((bs.toArray.size : Int)).toNat → (bs.length : Int) = ((q + (lineOf (bs.drop q)).length : Nat) : Int) := by rw [z2]; exact line_miss hq)
  all_goals (have l4 := lineOf_le (bs.drop q); rw [List.length_drop] at l4)
  all_goals (clear z2)
  all_goals (first
    | (refine ⟨_, _, rfl, ?_⟩; first | (with_reducible refine line_val0 ?_; omega) | (with_reducible refine line_val hq ?_; omega))
    | omega)

theorem tell_does (w : World) (p : Program) (loose : List Str) (mean : ExcName → Option Value) (mg mb : Str → Option Value) (b bd ba : Addr) (h1 h2 : Int) (t1 t2 : Tok) (bs : List UInt8) (q : Nat) (t : Tok) (hq : q ≤ bs.length) (hb : bs.length < 1000000) :
    Does (Mine.frag.heap_1 w.params) PySem.Challenge.rw_ez0337_01.row.prog w p loose mean mg mb 5 501 [.ref b] [] [(b, instObj 601 bd), (bd, bioD h1 h2 t1 t2 ba q t), (ba, baObj bs.toArray)] (fun _ => True) (fun _ v h' => ∃ z t', z = ((q : Nat) : Int) ∧ (∃ z tb, v = .int z tb ∧ z = (q : Int)) ∧ h'.get? b = some (instObj 601 bd) ∧ h'.get? bd = some (bioD h1 h2 t1 t2 ba z t') ∧ h'.get? ba = some (baObj (bs).toArray)) := by
  k_fill
  intro dp un gd outer base g A₀ s R B st X T hW hsz hPre hd hu kont
  refine' enter st X T hW hsz ?ho ?hcd ?hroom ?hbind ?hloc ?_ ?c2 ?c3 ?c4 ?c5
  case ho => k_is
  case hcd => k_is
  case hroom => omega
  case hbind => first | exact BindsTo.of_eq rfl | exact binds_K (X.keeps fun b o e => st b o e) rfl (by k_is) rfl rfl rfl
  case hloc => exact locs rfl
  case c2 => rfl
  case c3 => rfl
  case c4 => rfl
  case c5 => decide
  intro L' h₁ F N hlt
  (try k_lt hlt)
  dsimp only
  obtain ⟨n1, n2, n3⟩ := bio_ne N
  have z0 : bs.toArray.size = bs.length := List.size_toArray ..
  k_steps
  all_goals (try dsimp only)
  all_goals (refine kont _ _ _ (Fr.keep (by assumption)) ⟨_, _, ?_, ?_, News.get (by assumption) (by k_mem), News.get (by assumption) (by k_mem), News.get (by assumption) (by k_mem)⟩)
  all_goals (first | (refine ⟨_, _, rfl, ?_⟩; omega) | omega)

theorem seekEnd_does (w : World) (p : Program) (loose : List Str) (mean : ExcName → Option Value) (mg mb : Str → Option Value) (b bd ba : Addr) (h1 h2 : Int) (t1 t2 : Tok) (bs : List UInt8) (q : Nat) (t : Tok) (hq : q ≤ bs.length) (hb : bs.length < 1000000) (u u' : Tok) :
    Does (Mine.frag.heap_1 w.params) PySem.Challenge.rw_ez0337_01.row.prog w p loose mean mg mb 5 509 [.ref b, .int 0 u, .int 2 u'] [] [(b, instObj 601 bd), (bd, bioD h1 h2 t1 t2 ba q t), (ba, baObj bs.toArray)] (fun _ => True) (fun _ v h' => ∃ z t', z = ((bs.length : Nat) : Int) ∧ (∃ z tb, v = .int z tb ∧ z = (bs.length : Int)) ∧ h'.get? b = some (instObj 601 bd) ∧ h'.get? bd = some (bioD h1 h2 t1 t2 ba z t') ∧ h'.get? ba = some (baObj (bs).toArray)) := by
  k_fill
  intro dp un gd outer base g A₀ s R B st X T hW hsz hPre hd hu kont
  refine' enter st X T hW hsz ?ho ?hcd ?hroom ?hbind ?hloc ?_ ?c2 ?c3 ?c4 ?c5
  case ho => k_is
  case hcd => k_is
  case hroom => omega
  case hbind => first | exact BindsTo.of_eq rfl | exact binds_K (X.keeps fun b o e => st b o e) rfl (by k_is) rfl rfl rfl
  case hloc => exact locs rfl
  case c2 => rfl
  case c3 => rfl
  case c4 => rfl
  case c5 => decide
  intro L' h₁ F N hlt
  (try k_lt hlt)
  dsimp only
  obtain ⟨n1, n2, n3⟩ := bio_ne N
  have z0 : bs.toArray.size = bs.length := List.size_toArray ..
  k_steps
  all_goals (try dsimp only)
  all_goals (refine kont _ _ _ (Fr.keep (by assumption)) ⟨_, _, ?_, ?_, News.get (by assumption) (by k_mem), News.get (by assumption) (by k_mem), News.get (by assumption) (by k_mem)⟩)
  all_goals (first | (refine ⟨_, _, rfl, ?_⟩; omega) | omega)

theorem seekTo_does (w : World) (p : Program) (loose : List Str) (mean : ExcName → Option Value) (mg mb : Str → Option Value) (b bd ba : Addr) (h1 h2 : Int) (t1 t2 : Tok) (bs : List UInt8) (q : Nat) (t : Tok) (hq : q ≤ bs.length) (hb : bs.length < 1000000) (i : Nat) (hi : i < 1000000) (u : Tok) :
    Does (Mine.frag.heap_1 w.params) PySem.Challenge.rw_ez0337_01.row.prog w p loose mean mg mb 5 509 [.ref b, .int (i : Int) u] [] [(b, instObj 601 bd), (bd, bioD h1 h2 t1 t2 ba q t), (ba, baObj bs.toArray)] (fun _ => True) (fun _ v h' => ∃ z t', z = ((i : Nat) : Int) ∧ (∃ z tb, v = .int z tb ∧ z = (i : Int)) ∧ h'.get? b = some (instObj 601 bd) ∧ h'.get? bd = some (bioD h1 h2 t1 t2 ba z t') ∧ h'.get? ba = some (baObj (bs).toArray)) := by
  k_fill
  intro dp un gd outer base g A₀ s R B st X T hW hsz hPre hd hu kont
  refine' enter st X T hW hsz ?ho ?hcd ?hroom ?hbind ?hloc ?_ ?c2 ?c3 ?c4 ?c5
  case ho => k_is
  case hcd => k_is
  case hroom => omega
  case hbind => first | exact BindsTo.of_eq rfl | exact binds_K (X.keeps fun b o e => st b o e) rfl (by k_is) rfl rfl rfl
  case hloc => exact locs rfl
  case c2 => rfl
  case c3 => rfl
  case c4 => rfl
  case c5 => decide
  intro L' h₁ F N hlt
  (try k_lt hlt)
  dsimp only
  obtain ⟨n1, n2, n3⟩ := bio_ne N
  have z0 : bs.toArray.size = bs.length := List.size_toArray ..
  k_steps
  all_goals (try dsimp only)
  all_goals (refine kont _ _ _ (Fr.keep (by assumption)) ⟨_, _, ?_, ?_, News.get (by assumption) (by k_mem), News.get (by assumption) (by k_mem), News.get (by assumption) (by k_mem)⟩)
  all_goals (first | (refine ⟨_, _, rfl, ?_⟩; omega) | omega)

end Mine
end EzIO
section EzCN
open PySem PySem.W PyProof.Rows PySem.Calls
set_option maxRecDepth 100000
namespace Mine
theorem madeBy_own {M : Model} {h : Heap} {C : Addr} {oc od cd sl} {c : Value} {l : List Value} (hC : h.get? C = some ⟨oc, od, .cls cd, sl⟩) (hl : cd.mro = c :: l) (e3 : (sl.toList[4]?).join = some .none) : Looks M h (Bind.madeBy (.ref C)) none := by
  intro A Q E s k q
  unfold Bind.madeBy
  refine wpAny_bind ((mroOf_looks hC) A _ E s k ?_)
  rw [hl, List.forIn_cons]
  refine wpAny_bind (wpAny_bind (wpAny_bind (wpAny_bind (wpAny_loadPart (k _ _ hC) (wpAny_pure ?_)))))
  dsimp only
  rw [← Array.getElem?_toList, e3]
  exact wpAny_pure (wpAny_pure (wpAny_pure q))
theorem ar_type_call {A : Around} {C : Addr} {rest : List Value} {kw : List (PySem.Str × Value)} : A.under (.builtin "type.__call__" ⟨.ref C :: rest, kw⟩) = { A with depth := A.depth + 1, units := A.units + 1 } := by
  obtain ⟨h, d, f, g, u⟩ := A
  show Around.mk _ _ _ _ _ = _
  congr 1
end Mine
end EzCN
section EzCO
open PySem PySem.W PyProof.Rows PySem.Calls Builtin
set_option maxRecDepth 100000
set_option maxHeartbeats 1000000
namespace Mine
abbrev cdOf (nm qn : PySem.Str) (bs mr : List Value) (ns : Addr) (sub : List Value) (col : Option Bool) : ClassData := { name := nm, bases := bs, mro := mr, ns := ns, qualname := qn, hasDict := true, slotNames := [], subclasses := sub, abstract := false, collection := col, hasDel := false }
abbrev clsOb (cd : ClassData) (a0 a1 a2 a3 a5 : Option Value) : Obj := ⟨.type "type", none, .cls cd, #[a0, a1, a2, a3, some .none, a5]⟩
theorem mroOf_object : mroOf (.type "object") = pure [.type "object"] := by rw [mroOf_type]; kernel_rfl
theorem made_object : Bind.madeBy (.type "object") = pure (some "object.__new__") :=
  madeBy_type mroOf_object (by rw [typeLookup_type, builtinLookup_eq_fast]; kernel_rfl) (by decide +kernel)
theorem adds_object : Slots.addsLayout (.type "object") = pure false := rfl
section
variable {M : Model} {h : Heap} {C1 C2 C3 : Addr} {nm1 qn1 nm2 qn2 nm3 qn3 : PySem.Str} {ns1 ns2 ns3 : Addr} {sub1 sub2 sub3 : List Value} {col1 col2 col3 : Option Bool} {a0 a1 a2 a3 a5 b0 b1 b2 b3 b5 c0 c1 c2 c3 c5 : Option Value}
theorem static3 (h1 : h.get? C1 = some (clsOb (cdOf nm1 qn1 [.ref C2] [.ref C1, .ref C2, .ref C3, .type "object"] ns1 sub1 col1) a0 a1 a2 a3 a5))
    (h2 : h.get? C2 = some (clsOb (cdOf nm2 qn2 [.ref C3] [.ref C2, .ref C3, .type "object"] ns2 sub2 col2) b0 b1 b2 b3 b5))
    (h3 : h.get? C3 = some (clsOb (cdOf nm3 qn3 [.type "object"] [.ref C3, .type "object"] ns3 sub3 col3) c0 c1 c2 c3 c5)) : Looks M h (Bind.staticBase (.ref C1)) (.type "object") := by
  intro A Q E s k q
  have k1 := k _ _ h1
  have k2 := k _ _ h2
  have k3 := k _ _ h3
  have m1 : Looks M s.heap (Bind.madeBy (.ref C1)) none := madeBy_own k1 rfl rfl
  have m2 : Looks M s.heap (Bind.madeBy (.ref C2)) none := madeBy_own k2 rfl rfl
  have m3 : Looks M s.heap (Bind.madeBy (.ref C3)) none := madeBy_own k3 rfl rfl
  have m4 : Looks M s.heap (Bind.madeBy (.type "object")) (some "object.__new__") := Looks.of_pure made_object
  obtain ⟨hh, g, d, t, os⟩ := s
  dsimp only at k1 k2 k3 m1 m2 m3 m4
  unfold Bind.staticBase
  unfold Slots.bestBase Slots.solid
  repeat lk
  exact q
end
open Builtin.ObjectAttr in
theorem new_own {prog : Program} {w : World} {A : Around} {C : Addr} {R : Result → Shared → Prop} {h : Heap} {g : Array GenState} {d : Drawn} {t : Nat} {os : OsState} {oc od cd sl}
    (hC : h.get? C = some ⟨oc, od, .cls cd, sl⟩) (e1 : cd.abstract = false) (e2 : cd.hasDel = false) (base : Looks (model prog w) h (Bind.staticBase (.ref C)) (.type "object")) (typ : Looks (model prog w) h (isInstance (.ref C) (.type "type")) true) (top : Looks (model prog w) h (isSubtype (.ref C) (.type "object")) true)
    (hq : R (.ok (.ret (.ref (h.objs.size + 1)))) ⟨(h.push emptyDict).push (instObj C h.objs.size), g, d, t, os⟩) :
    codeAny (model prog w) A (.call (.builtin "object.__new__") ⟨[.ref C], []⟩) R ⟨h, g, d, t, os⟩ := by
  have F := PySem.F.objNew
  have made : Looks (model prog w) h (Bind.madeBy (.type "object")) (some "object.__new__") := Looks.of_pure made_object
  refine codeAny_call_builtin_code (Code.quiet_builtin _ F.quiet) ?_
  simp only [checkBuiltinCall, F.kind, F.split, F.row]
  have here : Looks (model prog w) h (Bind.madeHere "object.__new__" (.ref C)) () := base.andThen (made.andThen (Looks.of_pure (by simp only [Option.map_some, bne_self_eq_false, Bool.false_eq_true, if_false])))
  have args : Bind.checkArgs "object.__new__" ⟨.hand, "object.__new__", "__new__", .cls, []⟩ ⟨[.ref C], []⟩ = pure () := by kernel_rfl
  rw [args]
  repeat (first | simp only [bne_self_eq_false, Bool.false_eq_true, if_false] | lk)
  refine codeAny_builtin F.entry ?_
  unfold Builtin.«object.__new__»
  have fin : ∀ A', wpAny (model prog w) A' (do
      let d ← if typeHasDict (.ref C) then some <$> alloc { cls := .type "dict", data := .dict #[] } else pure none
      ret (← newObj (.ref C) .plain d)) (fun fin s' => match fin with | .done f => R (.ok f) s' | .again c' => c'.quiet = true ∧ codeAny (model prog w) A c' R s') (fun e s' => R (.error e) s') ⟨h, g, d, t, os⟩ := by
    intro A'
    show wpAny _ _ ((alloc emptyDict >>= fun x => pure (some x)) >>= _) _ _ _
    refine wpAny_bind (wpAny_bind (wpAny_alloc (wpAny_pure (wpAny_bind ?_))))
    show wpAny _ _ (newObjAsIs _ _ _) _ _ _
    unfold newObjAsIs classHasDel
    refine wpAny_bind (wpAny_alloc (wpAny_bind (wpAny_bind (wpAny_load (Heap.get?_push_of_some _ (Heap.get?_push_of_some _ hC)) (wpAny_pure ?_)))))
    rw [e2]
    refine wpAny_pure (wpAny_pure ?_)
    show R _ _
    rw [Heap.size_push]
    exact hq
  repeat (first | simp only [e1, Bool.false_eq_true, if_false] | exact fin _ | lk)
theorem call_new_own {prog : Program} {w : World} {A : Around} {E : Value → Shared → Prop} {s : Shared} {K : Frag} {C L : Addr} {h₀ : Heap} {m : PySem.Str → Option Value} {news : List (Addr × Obj)} {Q : Value → Shared → Prop} {oc od cd sl}
    (F : Fr h₀ L s.heap m) (X : K.In s.heap) (N : News h₀ L s.heap news) (hC : s.heap.get? C = some ⟨oc, od, .cls cd, sl⟩) (e1 : cd.abstract = false) (e2 : cd.hasDel = false) (base : Looks (model prog w) s.heap (Bind.staticBase (.ref C)) (.type "object")) (typ : instIn K (.ref C) (.type "type") = some true) (top : subIn K (.ref C) (.type "object") = some true)
    (h : ∀ x dx h', Fr h₀ L h' m → News h₀ L h' ((x, instObj C dx) :: (dx, dictOf [] 0) :: news) → (∀ p ∈ news, p.1 < dx) → dx < x → Q (.ref x) { s with heap := h' }) :
    wpAny (model prog w) A (call (.builtin "object.__new__") [.ref C]) Q E s := by
  obtain ⟨hh, g, d, t, os⟩ := s
  refine wpAny_call (new_own hC e1 e2 base (looks_instIn X typ) (looks_subIn X top) ?_)
  have N' := (N.push F emptyDict).push (F.push _) (instObj C hh.objs.size)
  rw [Heap.size_push] at N'
  exact h _ hh.objs.size _ ((F.push _).push _) N' (fun p hp => Heap.lt_size (N p hp).1) (Nat.lt_succ_self _)
end Mine
end EzCO
section EzUse
open PySem PySem.W PyProof.Rows PySem.Calls
namespace Mine
section
variable {α : Type} {P : α → Prop} {a b c d e f : α}
theorem all0 : ∀ q ∈ ([] : List α), P q := fun _ h => nomatch h
theorem all1 (h1 : P a) : ∀ q ∈ [a], P q := fun q h => by rcases List.mem_cons.mp h with rfl | h; exact h1; exact nomatch h
theorem all2 (h1 : P a) (h2 : P b) : ∀ q ∈ [a, b], P q := fun q h => by rcases List.mem_cons.mp h with rfl | h; exact h1; exact all1 h2 q h
theorem all3 (h1 : P a) (h2 : P b) (h3 : P c) : ∀ q ∈ [a, b, c], P q := fun q h => by rcases List.mem_cons.mp h with rfl | h; exact h1; exact all2 h2 h3 q h
theorem all4 (h1 : P a) (h2 : P b) (h3 : P c) (h4 : P d) : ∀ q ∈ [a, b, c, d], P q := fun q h => by rcases List.mem_cons.mp h with rfl | h; exact h1; exact all3 h2 h3 h4 q h
theorem all5 (h1 : P a) (h2 : P b) (h3 : P c) (h4 : P d) (h5 : P e) : ∀ q ∈ [a, b, c, d, e], P q := fun q h => by rcases List.mem_cons.mp h with rfl | h; exact h1; exact all4 h2 h3 h4 h5 q h
theorem all6 (h1 : P a) (h2 : P b) (h3 : P c) (h4 : P d) (h5 : P e) (h6 : P f) : ∀ q ∈ [a, b, c, d, e, f], P q := fun q h => by rcases List.mem_cons.mp h with rfl | h; exact h1; exact all5 h2 h3 h4 h5 h6 q h
end
theorem nin_of {l : List (Addr × Obj)} {a : Addr} (h : ∀ p ∈ l, p.1 ≠ a) : a ∉ l.map (·.1) := fun q => by
  obtain ⟨p, hp, e⟩ := List.mem_map.mp q
  exact h p hp e
theorem ne_of_none {g : Heap} {a b : Addr} {o : Obj} (h1 : g.get? a = none) (h2 : g.get? b = some o) : @Ne Nat a b := by
  rintro rfl
  rw [h1] at h2; cases h2
theorem ne_of_objs {g : Heap} {a b : Addr} {o o' : Obj} (h1 : g.get? a = some o) (h2 : g.get? b = some o') (h : o.data ≠ o'.data ∨ o.cls ≠ o'.cls) : @Ne Nat a b := by
  rintro rfl
  rw [h1] at h2; cases h2
  rcases h with h | h <;> exact h rfl
end Mine
end EzUse
section EzSB
open PySem PySem.W PyProof.Rows PySem.Calls
namespace Mine
set_option maxRecDepth 100000
set_option maxHeartbeats 1000000
local macro_rules | `(tactic| k_in) => `(tactic| first | k_in_fast | exact Frag.In.keeps (by k_asm) (Fr.keep (by k_asm)))
local macro_rules | `(tactic| k_room) => `(tactic| ktr_room)
local macro_rules | `(tactic| k_units) => `(tactic| ktr_units)
structure K4 where
  h1 : Int
  h2 : Int
  h3 : Int
  h4 : Int
  t1 : Tok
  t2 : Tok
  t3 : Tok
  t4 : Tok
abbrev sbD (k : K4) (sock : Value) (rs : Int) (u : Tok) (to : Value) (b : Addr) : Obj :=
  dictOf [⟨k.h1, .str "_sock" k.t1, sock⟩, ⟨k.h2, .str "socket_read_size" k.t2, .int rs u⟩, ⟨k.h3, .str "socket_timeout" k.t3, to⟩, ⟨k.h4, .str "_buffer" k.t4, .ref b⟩] 4
local macro_rules | `(tactic| k_fill) => `(tactic| (k_with_none; (k_with "eval Name" => (k_here; k_dflt (first | (refine' nameX_K ?F ?X ?T ?e ?_ ?a ?b ?c; (case F => k_asm); (case X => k_asm); (case T => k_asm); (case e => k_is); (case a => kernel_rfl); (case b => kernel_rfl); (case c => kernel_rfl); k_whole) | (refine' nameX_C ?N ?h ?m ?d ?_ ?a ?b ?c; (case h => rfl); (case N => k_asm); (case m => k_mem); (case d => k_asm); (case a => kernel_rfl); (case b => kernel_rfl); (case c => kernel_rfl); k_whole) | (refine' nameX_L ?F ?v ?_ ?a ?b ?c; (case F => k_asm); (case v => rfl); (case a => kernel_rfl); (case b => kernel_rfl); (case c => kernel_rfl); k_whole) | (refine' nameX_B ?F ?X ?T ?e ?v ?n ?_ ?a ?b ?c; (case F => k_asm); (case X => k_asm); (case T => k_asm); (case e => k_is); (case v => boot_fast); (case n => decide); (case a => kernel_rfl); (case b => kernel_rfl); (case c => kernel_rfl); k_whole)))); (k_with "ite" => (k_closed; first | (refine ite_pos ?h ?_; (case h => k_dflt (decide +kernel))) | (refine ite_neg ?h ?_; (case h => k_dflt (decide +kernel))))); (k_with "call builtin:len" => (k_here; (with_reducible show wpAny _ _ (call (Value.builtin "len") [Value.ref _]) _ _ _); k_dflt (refine' ba_len_K ?k1 ?k2 ?k3 ?_; (case k1 => k_asm); (case k2 => k_mem); (case k3 => omega); k_whole); intro t' k')); (k_with "call type:bytes" => (k_here; (with_reducible show wpAny _ _ (call (Value.type "bytes") [Value.ref _]) _ _ _); k_dflt (refine' ba_bytes_K ?k1 ?k2 ?k3 ?_; (case k1 => k_asm); (case k2 => k_mem); (case k3 => exact Nat.lt_of_le_of_lt (KBc.size_picked_le _ _ _) (by omega)); k_whole); intro t' k')); (k_with "subscriptTail" => (k_here; (with_reducible show wpAny _ _ (subscriptTail _ _ (Value.ref _) (Value.ref _)) _ _ _); k_dflt (refine' ba_slice_K ?k1 ?k2 ?k3 ?k4 ?k5 ?k6 ?_ ?k7 ?k8; (case k1 => k_asm); (case k2 => k_asm); (case k3 => k_mem); (case k4 => constructor); (case k5 => constructor); (case k6 => omega); (case k7 => with_unfolding_all rfl); (case k8 => intro _; with_unfolding_all rfl); k_whole); intro x' h' F' N' l1; (try k_lt l1); (try k_sweep))); (k_with "getMethod ref" => (k_here; (with_reducible show wpAny _ _ (getMethod (Value.ref _) (PySem.Str.ofString "find") _) _ _ _); k_dflt (refine' ba_method_K ?k1 ?k2 ?_; (case k1 => k_asm); (case k2 => k_mem); k_whole))); (k_with "call builtin:bytearray.find" => (k_here; k_dflt (refine' ba_find_K ?k1 ?k2 ?k3 ?k4 ?k5 ?_; (case k1 => k_asm); (case k2 => k_mem); (case k3 => omega); (case k4 => omega); (case k5 => omega); k_whole); intro t')); (k_with "call type:type" => ((with_reducible show wpAny _ _ (call _ [Value.bytes _ _]) _ _ _); refine call_type_of (Tx := "bytes") (typeIs_bytes _ _ _) (by decide +kernel) ?_))))
theorem sbinit_does (w : World) (p : Program) (loose : List Str) (mean : ExcName → Option Value) (mg mb : Str → Option Value) (x dx pl : Addr) (hx : @Ne Nat x dx) (u : Tok) :
    DoesC (Mine.frag.heap_1 w.params) PySem.Challenge.rw_ez0337_01.row.prog w p loose mean mg mb 12 864 [.ref x, .ref pl, .int 4 u, .none] [] [(x, instObj 934 dx), (dx, dictOf [] 0)] (fun _ => True) (fun g v h' => v = .none ∧ ∃ k b bd ba h1 h2 t1 t2 t, h'.get? x = some (instObj 934 dx) ∧ h'.get? dx = some (sbD k (.ref pl) 4 u .none b) ∧ h'.get? b = some (instObj 601 bd) ∧ h'.get? bd = some (bioD h1 h2 t1 t2 ba 0 t) ∧ h'.get? ba = some (baObj #[]) ∧ g.get? b = none ∧ g.get? bd = none ∧ g.get? ba = none) := by
  k_fill
  intro dp un gd outer base g A₀ s R B st X T hW hsz hPre hd hu kont
  refine' enterC st X T hW hsz ?ho ?hcd ?hroom ?hbind ?hloc ?_ ?c2 ?c3 ?c4 ?c5
  case ho => k_is
  case hcd => k_is
  case hroom => omega
  case hbind => first | exact BindsTo.of_eq rfl | exact binds_K (X.keeps fun b o e => st b o e) rfl (by k_is) rfl rfl rfl
  case hloc => exact locs rfl
  case c2 => rfl
  case c3 => rfl
  case c4 => rfl
  case c5 => decide
  intro L' h₁ F N hlt
  (try k_lt hlt)
  dsimp only
  refine C_consK ?_
  k_steps
  all_goals (try dsimp only)
  refine C_consK ?_
  k_steps
  all_goals (try dsimp only)
  refine C_consK ?_
  k_steps
  all_goals (try dsimp only)
  refine C_cons (C_Assign_Attr (C_Call_Name ?_))
  k_steps
  refine C_callK0 (K := Mine.frag.heap_1 w.params) ?kX ?kK ?_
  case kX => k_in
  case kK => k_is
  dsimp only [List.nil_append]
  rename Fr _ _ _ _ => kF
  have KX := X.keeps kF.keep
  refine C_call ?_
  refine C_make (init := .ref 388) (KX 601 _ (by k_is)) rfl (looks_specialIn KX (by k_is)) (looks_instIn KX (by k_is)) ?_
  rw [ar_type_call]
  refine (madeBy_own (KX 601 _ (by k_is)) rfl rfl).here ?_
  dsimp only
  k_steps
  rename Fr _ _ _ _ => kF2
  rename Frag.In _ _ => kX2
  have KX2 := kX2.keeps kF2.keep
  refine call_new_own kF2 KX2 (by k_asm) (KX2 601 _ (by k_is)) rfl rfl (static3 (KX2 601 _ (by k_is)) (KX2 359 _ (by k_is)) (KX2 344 _ (by k_is))) (by k_is) (by k_is) ?_
  intro x' dx' h' F' N' l1 l2
  k_lt l1
  k_lt2 l2
  k_sweep
  k_steps
  all_goals (rename Fr g L' _ _ => kF3)
  all_goals (rename News g L' _ _ => kN3)
  all_goals (have KX3 := X.keeps kF3.keep)
  · exact ((Looks.ld (kN3.get (.head _))).andThen .now).andThen (looks_subIn KX3 (by k_is))
  · exact ((Looks.ld (kN3.get (.head _))).andThen .now).andThen (looks_findIn KX3 (by k_is))
  · exact bind_fn KX3 _ (by k_is)
  refine useC (init_does w p loose mean mg mb _ _ ?hx) B kF3 X kN3 T rfl (keepL := [(x, instObj 934 dx), (dx, _)]) (all2 (by k_mem) (by k_mem)) (all2 ⟨by k_mem, nin_of (by k_all)⟩ ⟨by k_mem, nin_of (by k_all)⟩) (fun _ _ _ => trivial) ?hd ?hu ?_
  case hx => omega
  case hd => show dp + 1 + 1 + 6 < recursionLimit; omega
  case hu => dsimp only [Around.deeper]; omega
  intro v₄ h₄ t₄ g₄ F₄ N₄ st₄ kp₄ st₄' post₄ bld
  obtain ⟨rfl, k1, k2, s1, s2, ba, tb, e1, e2, e3, e4⟩ := post₄
  have a1 := ne_of_none e4 (kp₄ _ (.head _))
  have a2 := ne_of_none e4 (kp₄ _ (.tail _ (.head _)))
  have N₅ := bld [(x', instObj 601 dx'), (dx', bioD k1 k2 s1 s2 ba 0 tb), (ba, baObj #[])] (all3 ⟨e1, .inl (by k_mem)⟩ ⟨e2, .inl (by k_mem)⟩ ⟨e3, .inr e4⟩)
  have N₆ : News g L' h₄ [(x', instObj 601 dx'), (dx', bioD k1 k2 s1 s2 ba 0 tb), (ba, baObj #[]), (x, instObj 934 dx), (dx, _)] := News.append N₅ N₄
  obtain ⟨b1, b2, b3⟩ := bio_ne N₆
  clear N₅ N₄ kF3 kN3
  dsimp only
  refine ⟨rfl, _, rfl, ?_⟩
  k_steps
  (try dsimp only)
  refine C_nil ?_
  (try dsimp only)
  rename News g L' _ _ => kN7
  refine kont _ _ _ (Fr.keep (by assumption)) ⟨rfl, ⟨_, _, _, _, _, _, _, _⟩, _, _, _, _, _, _, _, _, kN7.get (by k_mem), kN7.get (by k_mem), kN7.get (.head _), kN7.get (by k_mem), kN7.get (by k_mem), kN7.fresh (.head _), kN7.fresh (.tail _ (.head _)), kN7.fresh (.tail _ (.tail _ (.head _)))⟩

end Mine
end EzSB
section EzSt
open PySem PySem.W PyProof.Rows PySem.Calls
set_option maxRecDepth 100000
namespace Mine
/-- the parts that still lie in the list -/
inductive PartsV : List Value → List (List UInt8) → Prop
  | nil : PartsV [] []
  | cons {p : List UInt8} {t : Tok} {vs ps} : 0 < p.length → p.length < 1000 → PartsV vs ps → PartsV (.bytes p.toArray t :: vs) (p :: ps)
theorem PartsV.len {vs ps} (h : PartsV vs ps) : vs.length ≤ ps.flatten.length := by
  induction h with
  | nil => exact Nat.le_refl _
  | cons h1 _ _ ih => simp only [List.length_cons, List.flatten_cons, List.length_append]; omega
/-- six places, all apart (one fact, so that omega does not split on it) -/
structure Ne6 (a b c d e f : Nat) : Prop where
  m1 : a ≠ b
  m2 : a ≠ c
  m3 : a ≠ d
  m4 : a ≠ e
  m5 : a ≠ f
  m6 : b ≠ c
  m7 : b ≠ d
  m8 : b ≠ e
  m9 : b ≠ f
  m10 : c ≠ d
  m11 : c ≠ e
  m12 : c ≠ f
  m13 : d ≠ e
  m14 : d ≠ f
  m15 : e ≠ f
namespace Ne6
variable {a b c d e f : Nat}
theorem s1 (h : Ne6 a b c d e f) : b ≠ a := Ne.symm h.m1
theorem s2 (h : Ne6 a b c d e f) : c ≠ a := Ne.symm h.m2
theorem s3 (h : Ne6 a b c d e f) : d ≠ a := Ne.symm h.m3
theorem s4 (h : Ne6 a b c d e f) : e ≠ a := Ne.symm h.m4
theorem s5 (h : Ne6 a b c d e f) : f ≠ a := Ne.symm h.m5
theorem s6 (h : Ne6 a b c d e f) : c ≠ b := Ne.symm h.m6
theorem s7 (h : Ne6 a b c d e f) : d ≠ b := Ne.symm h.m7
theorem s8 (h : Ne6 a b c d e f) : e ≠ b := Ne.symm h.m8
theorem s9 (h : Ne6 a b c d e f) : f ≠ b := Ne.symm h.m9
theorem s10 (h : Ne6 a b c d e f) : d ≠ c := Ne.symm h.m10
theorem s11 (h : Ne6 a b c d e f) : e ≠ c := Ne.symm h.m11
theorem s12 (h : Ne6 a b c d e f) : f ≠ c := Ne.symm h.m12
theorem s13 (h : Ne6 a b c d e f) : e ≠ d := Ne.symm h.m13
theorem s14 (h : Ne6 a b c d e f) : f ≠ d := Ne.symm h.m14
theorem s15 (h : Ne6 a b c d e f) : f ≠ e := Ne.symm h.m15
end Ne6
section
variable {h₀ h : Heap} {L sb sd b bd ba pl : Addr} {k : K4} {h1 h2 : Int} {t1 t2 t u : Tok} {q : Int} {bs : List UInt8} {vs : List Value} {n : Nat}
theorem sb_ne (N : News h₀ L h [(sb, instObj 934 sd), (sd, sbD k (.ref pl) 4 u .none b), (b, instObj 601 bd), (bd, bioD h1 h2 t1 t2 ba q t), (ba, baObj bs.toArray), (pl, listOf vs.toArray n)]) :
    (@Ne Nat sb sd ∧ @Ne Nat sb b ∧ @Ne Nat sb bd ∧ @Ne Nat sb ba ∧ @Ne Nat sb pl) ∧ (@Ne Nat sd b ∧ @Ne Nat sd bd ∧ @Ne Nat sd ba ∧ @Ne Nat sd pl) ∧ (@Ne Nat b bd ∧ @Ne Nat b ba ∧ @Ne Nat b pl) ∧ (@Ne Nat bd ba ∧ @Ne Nat bd pl) ∧ @Ne Nat ba pl := by
  have e1 := N.get (.head _)
  have e2 := N.get (.tail _ (.head _))
  have e3 := N.get (.tail _ (.tail _ (.head _)))
  have e4 := N.get (.tail _ (.tail _ (.tail _ (.head _))))
  have e5 := N.get (.tail _ (.tail _ (.tail _ (.tail _ (.head _)))))
  have e6 := N.get (.tail _ (.tail _ (.tail _ (.tail _ (.tail _ (.head _))))))
  refine ⟨⟨?_, ?_, ?_, ?_, ?_⟩, ⟨?_, ?_, ?_, ?_⟩, ⟨?_, ?_, ?_⟩, ⟨?_, ?_⟩, ?_⟩
  all_goals first
    | (refine ne_of_objs (by assumption) (by assumption) (.inr ?_); simp; done)
    | (refine ne_of_objs e2 e4 (.inl ?_); simp; done)
theorem sb_ne6 (N : News h₀ L h [(sb, instObj 934 sd), (sd, sbD k (.ref pl) 4 u .none b), (b, instObj 601 bd), (bd, bioD h1 h2 t1 t2 ba q t), (ba, baObj bs.toArray), (pl, listOf vs.toArray n)]) : Ne6 sb sd b bd ba pl := by
  obtain ⟨⟨m1, m2, m3, m4, m5⟩, ⟨m6, m7, m8, m9⟩, ⟨m10, m11, m12⟩, ⟨m13, m14⟩, m15⟩ := sb_ne N
  exact ⟨m1, m2, m3, m4, m5, m6, m7, m8, m9, m10, m11, m12, m13, m14, m15⟩
end
section
variable {prog : Program} {w : World} {A : Around} {E : Value → Shared → Prop} {s : Shared} {a : Addr} {h₀ : Heap} {L : Addr} {m : PySem.Str → Option Value} {news news' : List (Addr × Obj)} {vs : List Value} {y : Value} {n : Nat}
theorem pop0_K {u : Tok} {Q : Value → Shared → Prop} (F : Fr h₀ L s.heap m) (N : News h₀ L s.heap news) (U : Upd a (listOf (y :: vs).toArray n) (listOf vs.toArray (n + 1)) news news') (hz : vs.length < 1000000)
    (h : ∀ h', Fr h₀ L h' m → News h₀ L h' news' → Q y { s with heap := h' }) : wpAny (model prog w) A (call (.builtin "list.pop") [.ref a, .int 0 u]) Q E s :=
  kl_popAt (k := 0) (p := []) F N rfl (by simp [seqIndex?]) rfl U (by rw [sizeLine_eq]; simp; omega) h
theorem truthyL_K {Q : Bool → Shared → Prop} (N : News h₀ L s.heap news) (hm : (a, listOf (y :: vs).toArray n) ∈ news) (hz : vs.length < 1000000) (h : Q true { s with toks := s.toks + 1 + 1 }) : wpAny (model prog w) A (truthy (.ref a)) Q E s :=
  kgr_truthy N hm rfl rfl (by simp; omega) h
end
end Mine
end EzSt
section EzCall
open PySem PySem.W PyProof.Rows PySem.Calls
namespace Mine
set_option maxRecDepth 100000
set_option maxHeartbeats 1000000
local macro_rules | `(tactic| k_in) => `(tactic| first | k_in_fast | exact Frag.In.keeps (by k_asm) (Fr.keep (by k_asm)))
local macro_rules | `(tactic| k_ne) => `(tactic| (refine neN ?_; (try dsimp only); (with_reducible rename Ne6 _ _ _ _ _ _ => kNe); first | exact kNe.m1 | exact kNe.s1 | exact kNe.m2 | exact kNe.s2 | exact kNe.m3 | exact kNe.s3 | exact kNe.m4 | exact kNe.s4 | exact kNe.m5 | exact kNe.s5 | exact kNe.m6 | exact kNe.s6 | exact kNe.m7 | exact kNe.s7 | exact kNe.m8 | exact kNe.s8 | exact kNe.m9 | exact kNe.s9 | exact kNe.m10 | exact kNe.s10 | exact kNe.m11 | exact kNe.s11 | exact kNe.m12 | exact kNe.s12 | exact kNe.m13 | exact kNe.s13 | exact kNe.m14 | exact kNe.s14 | exact kNe.m15 | exact kNe.s15 | omega))
section
variable {w : World} {p : Program} {loose : List PySem.Str} {mean : ExcName → Option Value} {mg mb : PySem.Str → Option Value}
variable {A₀ : Around} {base g : Heap} {outer : List Env} {s : Shared} {L a : Addr} {m : PySem.Str → Option Value} {cn : PySem.Str} {cs : Scope} {ccd : Value} {cl : List (PySem.Str × Addr)} {dp un : Nat} {gd : Option (List Code)}
variable {k : K4} {sb sd b bd ba pl : Addr} {h1 h2 : Int} {t1 t2 u0 t : Tok} {bs : List UInt8} {vs : List Value} {n : Nat} {z : Int}
theorem sb_tell {Q E : Value → Shared → Prop} (B : Below A₀ base outer g) (F : Fr g L s.heap m) (X : (Mine.frag.heap_1 w.params).In g) (T : Top p loose mean mg mb g)
    (N : News g L s.heap [(sb, instObj 934 sd), (sd, sbD k (.ref pl) 4 u0 .none b), (b, instObj 601 bd), (bd, bioD h1 h2 t1 t2 ba z t), (ba, baObj (bs).toArray), (pl, listOf (vs).toArray n)]) (hk : cs.kind = .function) {q : Nat} (hz : z = ((q : Nat) : Int)) (hq : q ≤ bs.length) (hb : bs.length < 1000000) (hd : dp + 5 < recursionLimit) (hu : un + 8 * 5 < cLine)
    (h : ∀ h' t' tq tv, Fr g L h' m → News g L h' [(sb, instObj 934 sd), (sd, sbD k (.ref pl) 4 u0 .none b), (b, instObj 601 bd), (bd, bioD h1 h2 t1 t2 ba ((q : Nat) : Int) tq), (ba, baObj (bs).toArray), (pl, listOf (vs).toArray n)] → Q (.int ((q : Nat) : Int) tv) { s with heap := h', toks := t' }) :
    wpAny (model PySem.Challenge.rw_ez0337_01.row.prog w) (Ar dp un gd (envX cn cs L a ccd cl :: outer)) (call (.ref 501) [.ref b]) Q E s := by
  subst hz
  have hN6 := sb_ne6 N
  refine use (tell_does w p loose mean mg mb b bd ba h1 h2 t1 t2 bs q t hq hb) B F X N T hk (keepL := [(sb, instObj 934 sd), (sd, sbD k (.ref pl) 4 u0 .none b), (pl, listOf vs.toArray n)]) (all3 (by k_mem) (by k_mem) (by k_mem)) ?hK (fun _ _ _ => trivial) hd hu ?_
  case hK => exact all3 ⟨by k_mem, nin_of (by k_all)⟩ ⟨by k_mem, nin_of (by k_all)⟩ ⟨by k_mem, nin_of (by k_all)⟩
  intro v₄ h₄ t₄ g₄ F₄ N₄ st₄ kp₄ st₄' post₄ bld
  obtain ⟨z', t', rfl, ⟨_, _, rfl, rfl⟩, e1, e2, e3⟩ := post₄
  refine h h₄ t₄ t' _ F₄ ?_
  exact all6 (N₄ _ (by k_mem)) (N₄ _ (by k_mem)) (bld [_] (all1 ⟨e1, .inl (by k_mem)⟩) _ (.head _)) (bld [_] (all1 ⟨e2, .inl (by k_mem)⟩) _ (.head _)) (bld [_] (all1 ⟨e3, .inl (by k_mem)⟩) _ (.head _)) (N₄ _ (by k_mem))
theorem sb_seekEnd {Q E : Value → Shared → Prop} (B : Below A₀ base outer g) (F : Fr g L s.heap m) (X : (Mine.frag.heap_1 w.params).In g) (T : Top p loose mean mg mb g)
    (N : News g L s.heap [(sb, instObj 934 sd), (sd, sbD k (.ref pl) 4 u0 .none b), (b, instObj 601 bd), (bd, bioD h1 h2 t1 t2 ba z t), (ba, baObj (bs).toArray), (pl, listOf (vs).toArray n)]) (hk : cs.kind = .function) {q : Nat} (hz : z = ((q : Nat) : Int)) (hq : q ≤ bs.length) (hb : bs.length < 1000000) {u u' : Tok} (hd : dp + 5 < recursionLimit) (hu : un + 8 * 5 < cLine)
    (h : ∀ h' t' tq tv, Fr g L h' m → News g L h' [(sb, instObj 934 sd), (sd, sbD k (.ref pl) 4 u0 .none b), (b, instObj 601 bd), (bd, bioD h1 h2 t1 t2 ba ((bs.length : Nat) : Int) tq), (ba, baObj (bs).toArray), (pl, listOf (vs).toArray n)] → Q (.int ((bs.length : Nat) : Int) tv) { s with heap := h', toks := t' }) :
    wpAny (model PySem.Challenge.rw_ez0337_01.row.prog w) (Ar dp un gd (envX cn cs L a ccd cl :: outer)) (call (.ref 509) [.ref b, .int 0 u, .int 2 u']) Q E s := by
  subst hz
  have hN6 := sb_ne6 N
  refine use (seekEnd_does w p loose mean mg mb b bd ba h1 h2 t1 t2 bs q t hq hb u u') B F X N T hk (keepL := [(sb, instObj 934 sd), (sd, sbD k (.ref pl) 4 u0 .none b), (pl, listOf vs.toArray n)]) (all3 (by k_mem) (by k_mem) (by k_mem)) ?hK (fun _ _ _ => trivial) hd hu ?_
  case hK => exact all3 ⟨by k_mem, nin_of (by k_all)⟩ ⟨by k_mem, nin_of (by k_all)⟩ ⟨by k_mem, nin_of (by k_all)⟩
  intro v₄ h₄ t₄ g₄ F₄ N₄ st₄ kp₄ st₄' post₄ bld
  obtain ⟨z', t', rfl, ⟨_, _, rfl, rfl⟩, e1, e2, e3⟩ := post₄
  refine h h₄ t₄ t' _ F₄ ?_
  exact all6 (N₄ _ (by k_mem)) (N₄ _ (by k_mem)) (bld [_] (all1 ⟨e1, .inl (by k_mem)⟩) _ (.head _)) (bld [_] (all1 ⟨e2, .inl (by k_mem)⟩) _ (.head _)) (bld [_] (all1 ⟨e3, .inl (by k_mem)⟩) _ (.head _)) (N₄ _ (by k_mem))
theorem sb_seekTo {Q E : Value → Shared → Prop} (B : Below A₀ base outer g) (F : Fr g L s.heap m) (X : (Mine.frag.heap_1 w.params).In g) (T : Top p loose mean mg mb g)
    (N : News g L s.heap [(sb, instObj 934 sd), (sd, sbD k (.ref pl) 4 u0 .none b), (b, instObj 601 bd), (bd, bioD h1 h2 t1 t2 ba z t), (ba, baObj (bs).toArray), (pl, listOf (vs).toArray n)]) (hk : cs.kind = .function) {q : Nat} (hz : z = ((q : Nat) : Int)) (hq : q ≤ bs.length) (hb : bs.length < 1000000) {i : Nat} (hi : i < 1000000) {u : Tok} (hd : dp + 5 < recursionLimit) (hu : un + 8 * 5 < cLine)
    (h : ∀ h' t' tq tv, Fr g L h' m → News g L h' [(sb, instObj 934 sd), (sd, sbD k (.ref pl) 4 u0 .none b), (b, instObj 601 bd), (bd, bioD h1 h2 t1 t2 ba ((i : Nat) : Int) tq), (ba, baObj (bs).toArray), (pl, listOf (vs).toArray n)] → Q (.int ((i : Nat) : Int) tv) { s with heap := h', toks := t' }) :
    wpAny (model PySem.Challenge.rw_ez0337_01.row.prog w) (Ar dp un gd (envX cn cs L a ccd cl :: outer)) (call (.ref 509) [.ref b, .int ((i : Nat) : Int) u]) Q E s := by
  subst hz
  have hN6 := sb_ne6 N
  refine use (seekTo_does w p loose mean mg mb b bd ba h1 h2 t1 t2 bs q t hq hb i hi u) B F X N T hk (keepL := [(sb, instObj 934 sd), (sd, sbD k (.ref pl) 4 u0 .none b), (pl, listOf vs.toArray n)]) (all3 (by k_mem) (by k_mem) (by k_mem)) ?hK (fun _ _ _ => trivial) hd hu ?_
  case hK => exact all3 ⟨by k_mem, nin_of (by k_all)⟩ ⟨by k_mem, nin_of (by k_all)⟩ ⟨by k_mem, nin_of (by k_all)⟩
  intro v₄ h₄ t₄ g₄ F₄ N₄ st₄ kp₄ st₄' post₄ bld
  obtain ⟨z', t', rfl, ⟨_, _, rfl, rfl⟩, e1, e2, e3⟩ := post₄
  refine h h₄ t₄ t' _ F₄ ?_
  exact all6 (N₄ _ (by k_mem)) (N₄ _ (by k_mem)) (bld [_] (all1 ⟨e1, .inl (by k_mem)⟩) _ (.head _)) (bld [_] (all1 ⟨e2, .inl (by k_mem)⟩) _ (.head _)) (bld [_] (all1 ⟨e3, .inl (by k_mem)⟩) _ (.head _)) (N₄ _ (by k_mem))
theorem sb_read {Q E : Value → Shared → Prop} (B : Below A₀ base outer g) (F : Fr g L s.heap m) (X : (Mine.frag.heap_1 w.params).In g) (T : Top p loose mean mg mb g)
    (N : News g L s.heap [(sb, instObj 934 sd), (sd, sbD k (.ref pl) 4 u0 .none b), (b, instObj 601 bd), (bd, bioD h1 h2 t1 t2 ba z t), (ba, baObj (bs).toArray), (pl, listOf (vs).toArray n)]) (hk : cs.kind = .function) {q : Nat} (hz : z = ((q : Nat) : Int)) (hq : q ≤ bs.length) (hb : bs.length < 1000000) {i : Nat} (hi : i < 1000000) {u : Tok} (hd : dp + 5 < recursionLimit) (hu : un + 8 * 5 < cLine)
    (h : ∀ h' t' tq tv, Fr g L h' m → News g L h' [(sb, instObj 934 sd), (sd, sbD k (.ref pl) 4 u0 .none b), (b, instObj 601 bd), (bd, bioD h1 h2 t1 t2 ba ((q + ((bs.drop q).take i).length : Nat) : Int) tq), (ba, baObj (bs).toArray), (pl, listOf (vs).toArray n)] → Q (.bytes ((bs.drop q).take i).toArray tv) { s with heap := h', toks := t' }) :
    wpAny (model PySem.Challenge.rw_ez0337_01.row.prog w) (Ar dp un gd (envX cn cs L a ccd cl :: outer)) (call (.ref 525) [.ref b, .int ((i : Nat) : Int) u]) Q E s := by
  subst hz
  have hN6 := sb_ne6 N
  refine use (read_does w p loose mean mg mb b bd ba h1 h2 t1 t2 bs q t hq hb i hi u) B F X N T hk (keepL := [(sb, instObj 934 sd), (sd, sbD k (.ref pl) 4 u0 .none b), (pl, listOf vs.toArray n)]) (all3 (by k_mem) (by k_mem) (by k_mem)) ?hK (fun _ _ _ => trivial) hd hu ?_
  case hK => exact all3 ⟨by k_mem, nin_of (by k_all)⟩ ⟨by k_mem, nin_of (by k_all)⟩ ⟨by k_mem, nin_of (by k_all)⟩
  intro v₄ h₄ t₄ g₄ F₄ N₄ st₄ kp₄ st₄' post₄ bld
  obtain ⟨z', t', rfl, ⟨_, _, rfl, rfl⟩, e1, e2, e3⟩ := post₄
  refine h h₄ t₄ t' _ F₄ ?_
  exact all6 (N₄ _ (by k_mem)) (N₄ _ (by k_mem)) (bld [_] (all1 ⟨e1, .inl (by k_mem)⟩) _ (.head _)) (bld [_] (all1 ⟨e2, .inl (by k_mem)⟩) _ (.head _)) (bld [_] (all1 ⟨e3, .inl (by k_mem)⟩) _ (.head _)) (N₄ _ (by k_mem))
theorem sb_readline {Q E : Value → Shared → Prop} (B : Below A₀ base outer g) (F : Fr g L s.heap m) (X : (Mine.frag.heap_1 w.params).In g) (T : Top p loose mean mg mb g)
    (N : News g L s.heap [(sb, instObj 934 sd), (sd, sbD k (.ref pl) 4 u0 .none b), (b, instObj 601 bd), (bd, bioD h1 h2 t1 t2 ba z t), (ba, baObj (bs).toArray), (pl, listOf (vs).toArray n)]) (hk : cs.kind = .function) {q : Nat} (hz : z = ((q : Nat) : Int)) (hq : q ≤ bs.length) (hb : bs.length < 1000000) (hd : dp + 5 < recursionLimit) (hu : un + 8 * 5 < cLine)
    (h : ∀ h' t' tq tv, Fr g L h' m → News g L h' [(sb, instObj 934 sd), (sd, sbD k (.ref pl) 4 u0 .none b), (b, instObj 601 bd), (bd, bioD h1 h2 t1 t2 ba ((q + (lineOf (bs.drop q)).length : Nat) : Int) tq), (ba, baObj (bs).toArray), (pl, listOf (vs).toArray n)] → Q (.bytes (lineOf (bs.drop q)).toArray tv) { s with heap := h', toks := t' }) :
    wpAny (model PySem.Challenge.rw_ez0337_01.row.prog w) (Ar dp un gd (envX cn cs L a ccd cl :: outer)) (call (.ref 555) [.ref b]) Q E s := by
  subst hz
  have hN6 := sb_ne6 N
  refine use (readline_does w p loose mean mg mb b bd ba h1 h2 t1 t2 bs q t hq hb) B F X N T hk (keepL := [(sb, instObj 934 sd), (sd, sbD k (.ref pl) 4 u0 .none b), (pl, listOf vs.toArray n)]) (all3 (by k_mem) (by k_mem) (by k_mem)) ?hK (fun _ _ _ => trivial) hd hu ?_
  case hK => exact all3 ⟨by k_mem, nin_of (by k_all)⟩ ⟨by k_mem, nin_of (by k_all)⟩ ⟨by k_mem, nin_of (by k_all)⟩
  intro v₄ h₄ t₄ g₄ F₄ N₄ st₄ kp₄ st₄' post₄ bld
  obtain ⟨z', t', rfl, ⟨_, _, rfl, rfl⟩, e1, e2, e3⟩ := post₄
  refine h h₄ t₄ t' _ F₄ ?_
  exact all6 (N₄ _ (by k_mem)) (N₄ _ (by k_mem)) (bld [_] (all1 ⟨e1, .inl (by k_mem)⟩) _ (.head _)) (bld [_] (all1 ⟨e2, .inl (by k_mem)⟩) _ (.head _)) (bld [_] (all1 ⟨e3, .inl (by k_mem)⟩) _ (.head _)) (N₄ _ (by k_mem))
theorem sb_write {Q : Value → Shared → Prop} (B : Below A₀ base outer g) (F : Fr g L s.heap m) (X : (Mine.frag.heap_1 w.params).In g) (T : Top p loose mean mg mb g)
    (N : News g L s.heap [(sb, instObj 934 sd), (sd, sbD k (.ref pl) 4 u0 .none b), (b, instObj 601 bd), (bd, bioD h1 h2 t1 t2 ba z t), (ba, baObj (bs).toArray), (pl, listOf (vs).toArray n)]) (hk : cs.kind = .function) {q : Nat} (hz : z = ((q : Nat) : Int)) (hq : q = bs.length) (hb : bs.length < 500000) {o : List UInt8} (ho : 0 < o.length) (ho' : o.length < 100000) {u : Tok} (hd : dp + 6 < recursionLimit) (hu : un + 8 * 6 < cLine)
    (h : ∀ h' t' tq tv, Fr g L h' m → News g L h' [(sb, instObj 934 sd), (sd, sbD k (.ref pl) 4 u0 .none b), (b, instObj 601 bd), (bd, bioD h1 h2 t1 t2 ba ((bs.length + o.length : Nat) : Int) tq), (ba, baObj (bs ++ o).toArray), (pl, listOf (vs).toArray n)] → Q (.int ((o.length : Nat) : Int) tv) { s with heap := h', toks := t' }) :
    wpC (model PySem.Challenge.rw_ez0337_01.row.prog w) (Ar dp un gd (envX cn cs L a ccd cl :: outer)) (call (.ref 584) [.ref b, .bytes o.toArray u]) Q s := by
  subst hz
  have hN6 := sb_ne6 N
  refine useC (write_does w p loose mean mg mb b bd ba h1 h2 t1 t2 bs t hb o ho ho' u ((q : Nat) : Int) (by omega)) B F X N T hk (keepL := [(sb, instObj 934 sd), (sd, sbD k (.ref pl) 4 u0 .none b), (pl, listOf vs.toArray n)]) (all3 (by k_mem) (by k_mem) (by k_mem)) ?hK (fun _ _ _ => trivial) hd hu ?_
  case hK => exact all3 ⟨by k_mem, nin_of (by k_all)⟩ ⟨by k_mem, nin_of (by k_all)⟩ ⟨by k_mem, nin_of (by k_all)⟩
  intro v₄ h₄ t₄ g₄ F₄ N₄ st₄ kp₄ st₄' post₄ bld
  obtain ⟨z', t', bb, rfl, ⟨_, _, rfl, rfl⟩, rfl, e1, e2, e3⟩ := post₄
  refine h h₄ t₄ t' _ F₄ ?_
  exact all6 (N₄ _ (by k_mem)) (N₄ _ (by k_mem)) (bld [_] (all1 ⟨e1, .inl (by k_mem)⟩) _ (.head _)) (bld [_] (all1 ⟨e2, .inl (by k_mem)⟩) _ (.head _)) (bld [_] (all1 ⟨e3, .inl (by k_mem)⟩) _ (.head _)) (N₄ _ (by k_mem))
theorem sb_trunc {Q : Value → Shared → Prop} (B : Below A₀ base outer g) (F : Fr g L s.heap m) (X : (Mine.frag.heap_1 w.params).In g) (T : Top p loose mean mg mb g)
    (N : News g L s.heap [(sb, instObj 934 sd), (sd, sbD k (.ref pl) 4 u0 .none b), (b, instObj 601 bd), (bd, bioD h1 h2 t1 t2 ba z t), (ba, baObj (bs).toArray), (pl, listOf (vs).toArray n)]) (hk : cs.kind = .function) {q : Nat} (hz : z = ((q : Nat) : Int)) (hb : bs.length < 500000) {u : Tok} (hd : dp + 6 < recursionLimit) (hu : un + 8 * 6 < cLine)
    (h : ∀ h' t' tq tv, Fr g L h' m → News g L h' [(sb, instObj 934 sd), (sd, sbD k (.ref pl) 4 u0 .none b), (b, instObj 601 bd), (bd, bioD h1 h2 t1 t2 ba ((q : Nat) : Int) tq), (ba, baObj (([] : List UInt8)).toArray), (pl, listOf (vs).toArray n)] → Q (.int 0 tv) { s with heap := h', toks := t' }) :
    wpC (model PySem.Challenge.rw_ez0337_01.row.prog w) (Ar dp un gd (envX cn cs L a ccd cl :: outer)) (call (.ref 517) [.ref b, .int 0 u]) Q s := by
  subst hz
  have hN6 := sb_ne6 N
  refine useC (trunc_does w p loose mean mg mb b bd ba h1 h2 t1 t2 bs q t hb u) B F X N T hk (keepL := [(sb, instObj 934 sd), (sd, sbD k (.ref pl) 4 u0 .none b), (pl, listOf vs.toArray n)]) (all3 (by k_mem) (by k_mem) (by k_mem)) ?hK (fun _ _ _ => trivial) hd hu ?_
  case hK => exact all3 ⟨by k_mem, nin_of (by k_all)⟩ ⟨by k_mem, nin_of (by k_all)⟩ ⟨by k_mem, nin_of (by k_all)⟩
  intro v₄ h₄ t₄ g₄ F₄ N₄ st₄ kp₄ st₄' post₄ bld
  obtain ⟨z', t', bb, rfl, ⟨_, _, rfl, rfl⟩, rfl, e1, e2, e3⟩ := post₄
  refine h h₄ t₄ t' _ F₄ ?_
  exact all6 (N₄ _ (by k_mem)) (N₄ _ (by k_mem)) (bld [_] (all1 ⟨e1, .inl (by k_mem)⟩) _ (.head _)) (bld [_] (all1 ⟨e2, .inl (by k_mem)⟩) _ (.head _)) (bld [_] (all1 ⟨e3, .inl (by k_mem)⟩) _ (.head _)) (N₄ _ (by k_mem))
end
end Mine
end EzCall
section EzSt2
open PySem PySem.W PyProof.Rows PySem.Calls
set_option maxRecDepth 100000
namespace Mine
theorem mem3 {a b c : PySem.Str} (m : PySem.Str → Option Value) : (fun y => if y = a then m a else if y = b then m b else if y = c then m c else m y) = m := by
  funext y
  split
  · rename_i e; rw [e]
  · split
    · rename_i e; rw [e]
    · split
      · rename_i e; rw [e]
      · rfl
theorem over3 {a b c : PySem.Str} {x z w x' z' w' : Option Value} (m : PySem.Str → Option Value) :
    (fun y => if y = a then x else if y = b then z else if y = c then w else (if y = a then x' else if y = b then z' else if y = c then w' else m y)) = fun y => if y = a then x else if y = b then z else if y = c then w else m y := by
  funext y
  by_cases h1 : y = a
  · simp only [h1, if_true]
  · by_cases h2 : y = b
    · simp only [h1, h2, if_true, if_false]
    · by_cases h3 : y = c
      · simp only [h1, h2, h3, if_true, if_false]
      · simp only [h1, h2, h3, if_false]
theorem PartsV.uncons {vs : List Value} {ps : List (List UInt8)} (h : PartsV vs ps) (hne : 0 < ps.flatten.length) :
    ∃ p t vs' ps', vs = .bytes p.toArray t :: vs' ∧ ps = p :: ps' ∧ 0 < p.length ∧ p.length < 1000 ∧ PartsV vs' ps' := by
  cases h with
  | nil => simp at hne
  | cons h1 h2 h3 => exact ⟨_, _, _, _, rfl, rfl, h1, h2, h3⟩
end Mine
end EzSt2
section EzBy
open PySem PySem.W PyProof.Rows PySem.Calls
set_option maxRecDepth 100000
set_option maxHeartbeats 4000000
namespace Mine
/-- ends with CR LF -/
def endsCL (b : List UInt8) : Bool := if ((b.length : Nat) : Int) < 2 then false else (b.toArray.extract (b.length - 2) b.length == #[13, 10])
section
open Builtin
theorem isTuple_bytes {b : Array UInt8} {t : Tok} : isInstance (.bytes b t) (.type "tuple") = pure false := by
  have e : isInstance (.bytes b t) (.type "tuple") = isSubtype (.type "bytes") (.type "tuple") := rfl
  rw [e, isSubtype_type]; kernel_rfl
theorem gives_ends (b : List UInt8) (t u : Tok) : Gives («bytes.endswith» ⟨[.bytes b.toArray t, .bytes #[13, 10] u], []⟩) (.val (.bool (endsCL b))) := by
  refine .of_wp fun M A E s Q hS => ?_
  show wpAny _ _ (Bytes.tailMatchM .bytes "endswith" true ⟨[.bytes b.toArray t, .bytes #[13, 10] u], []⟩) _ _ s
  unfold Bytes.tailMatchM
  have e0 : selfAndSome (toString (Bytes.Kind.bytes).name ++ toString "." ++ toString "endswith") "endswith" 1 3 ⟨[.bytes b.toArray t, .bytes #[13, 10] u], []⟩ = pure (.bytes b.toArray t, [.bytes #[13, 10] u]) := by kernel_rfl
  refine wpAny_bind (wpAny_of_eq e0 ?_)
  refine wpAny_bind (wpAny_of_eq (a := none) rfl ?_)
  refine wpAny_bind (wpAny_of_eq (a := none) rfl ?_)
  refine wpAny_bind (wpAny_of_eq (a := b.toArray) rfl ?_)
  have ew : Bytes.window b.toArray.size none none = ((0 : Int), ((b.length : Nat) : Int)) := by
    unfold Bytes.window
    simp only [Option.getD_none, List.size_toArray]
    rw [if_neg (by omega), if_neg (by omega)]
    refine Prod.ext rfl ?_
    dsimp only
    omega
  rw [ew]
  dsimp only [List.headD_cons]
  refine wpAny_bind (wpAny_of_eq isTuple_bytes ?_)
  simp only [Bool.false_eq_true, if_false]
  refine wpAny_bind (wpAny_of_eq KBy.buffer_eq ?_)
  dsimp only
  refine wpAny_pure ⟨_, rfl, ?_⟩
  have e : (if ((b.length : Nat) : Int) - 0 < ((#[(13 : UInt8), 10]).size : Int) then false else if True then b.toArray.extract (((b.length : Nat) : Int).toNat - (#[(13 : UInt8), 10]).size) ((b.length : Nat) : Int).toNat == #[13, 10] else b.toArray.extract (0 : Int).toNat ((0 : Int).toNat + (#[(13 : UInt8), 10]).size) == #[13, 10]) = endsCL b := by
    unfold endsCL
    simp
  rw [← e] at hS
  exact hS
end
section
variable {prog : Program} {w : World} {A : Around} {E : Value → Shared → Prop} {s : Shared} {b c : List UInt8} {t u : Tok}
theorem by_ends_method {pl : Sem Bool} {b : Array UInt8} {Q : Value × List Value → Shared → Prop} (h : Q (.builtin "bytes.endswith", [.bytes b t]) s) : wpAny (model prog w) A (getMethod (.bytes b t) "endswith" pl) Q E s := by
  with_reducible exact KBd.method_of (.bytes b t) (typeIs_bytes _ _ _) FB.slot_bytes_endswith FB.type_bytes_endswith KBd.noRef h
theorem by_ends {Q : Value → Shared → Prop} (h : Q (.bool (endsCL b)) s) : wpAny (model prog w) A (call (.builtin "bytes.endswith") [.bytes b.toArray t, .bytes #[13, 10] u]) Q E s :=
  call_meets FB.slot_bytes_endswith (typeIs_bytes _ _ _) FB.entry_bytes_endswith (FB.args_bytes_endswith_2 _ _) (gives_ends b t u).meets h
theorem by_add {Q : Value → Shared → Prop} (hsz : b.length + c.length ≤ 16777216) (h : ∀ t' k, Q (.bytes (b ++ c).toArray t') { s with toks := k }) : wpAny (model prog w) A (binaryOp .Add (.bytes b.toArray t) (.bytes c.toArray u)) Q E s := by
  refine KBy.add_bytes (by simpa using hsz) fun t' k => ?_
  have := h t' k
  rw [← List.append_toArray] at this
  exact this
theorem noI_bytes_add : typeLookup (.type "bytes") (dunderI "add") = pure none := by rw [typeLookup_type, builtinLookup_eq_fast]; kernel_rfl
theorem by_iadd {Q : Value → Shared → Prop} (hsz : b.length + c.length ≤ 16777216) (h : ∀ t' k, Q (.bytes (b ++ c).toArray t') { s with toks := k }) : wpAny (model prog w) A (inplaceOp .Add (.bytes b.toArray t) (.bytes c.toArray u)) Q E s := by
  refine iconcat_gives (typeIs_bytes s _ t) (typeIs_bytes s _ u) noI_bytes_add KBy.noFill_bytes_add KBy.seq_bytes_add FB.slot_bytes_add FB.entry_bytes_add (FB.args_bytes_add_2 _ _) (KBy.gives_bytes_add (KBy.tooLong_not (by simpa using hsz))) ?_
  by_cases hb : b.toArray.isEmpty = true
  · rw [if_pos hb]
    have e : b = [] := by simpa using hb
    subst e
    exact h u s.toks
  · rw [if_neg hb]
    by_cases hc : c.toArray.isEmpty = true
    · rw [if_pos hc]
      have e : c = [] := by simpa using hc
      subst e
      have h' := h t s.toks
      rw [List.append_nil] at h'
      exact h'
    · rw [if_neg hc]
      refine ⟨by rw [Array.size_append, sizeLine_eq]; simpa using hsz, ?_⟩
      have := h s.toks (s.toks + 1)
      rw [← List.append_toArray] at this
      exact this
theorem by_len {Q : Value → Shared → Prop} (hz : b.length ≤ 16777216) (h : ∀ t' k, Q (.int ((b.length : Nat) : Int) t') { s with toks := k }) : wpAny (model prog w) A (call (.builtin "len") [.bytes b.toArray t]) Q E s := by
  refine len_bytes (by simp; omega) ?_
  have := h (s.toks + 1) (s.toks + 1 + 1)
  simpa using this
theorem by_truthy {Q : Bool → Shared → Prop} (hz : b.length ≤ 16777216) (h0 : 0 < b.length) (h : ∀ k, Q true { s with toks := k }) : wpAny (model prog w) A (truthy (.bytes b.toArray t)) Q E s := by
  refine truthy_bytes (by simp; omega) ?_
  have e : ((b.toArray.size : Int) != 0) = true := by
    simp; rintro rfl; simp at h0
  rw [e]; exact h _
theorem by_eq {Q : Value → Shared → Prop} (h : Q (.bool (b == c)) s) : wpAny (model prog w) A (compareOp .Eq (.bytes b.toArray t) (.bytes c.toArray u)) Q E s := by
  refine eq_bytes ?_
  simpa using h
end
section
variable {prog : Program} {w : World} {A : Around} {E : Value → Shared → Prop} {s : Shared} {value slice : PySem.Expr} {b : List UInt8} {t : Tok} {h₀ : Heap} {L : Addr} {m : PySem.Str → Option Value} {news : List (Addr × Obj)} {l u : Value} {lo hi : Option Int} {Q : Value → Shared → Prop}
/-- what a slice takes -/
def cut (b : List UInt8) (lo hi : Option Int) : List UInt8 := (b.drop (lo.elim 0 (clipAt b.length))).take (hi.elim b.length (clipAt b.length) - lo.elim 0 (clipAt b.length))
theorem cut_picked : KBy.picked b.toArray lo hi = (cut b lo hi).toArray := by
  rw [KBc.picked_eq]; unfold cut; simp
theorem cut_le : (cut b lo hi).length ≤ b.length := by
  unfold cut; rw [List.length_take, List.length_drop]; omega
theorem by_slice (hF : Fr h₀ L s.heap m) (hN : News h₀ L s.heap news) (hl : IsPart l lo) (hu : IsPart u hi) (hz : b.length ≤ 16777216)
    (h : ∀ h' t' k, Fr h₀ L h' m → News h₀ L h' news → Q (.bytes (cut b lo hi).toArray t') { s with heap := h', toks := k })
    (hs : subscripted slice false (.bytes b.toArray t) (.ref s.heap.objs.size) = operate [.ref s.heap.objs.size, .bytes b.toArray t] (getItem (.bytes b.toArray t) (.ref s.heap.objs.size)) := by with_unfolding_all rfl)
    (ht : ∀ r, letTemporaryGo value (.bytes b.toArray t) r = pure () := by intro _; with_unfolding_all rfl) :
    wpAny (model prog w) A (subscriptTail value slice (.bytes b.toArray t) (.ref s.heap.objs.size)) Q E { s with heap := s.heap.push { cls := .type "slice", data := .fields #[l, u, .none] } } :=
  tail_of_ItemOn ⟨"bytes", _, FB.slot_bytes_getitem.lookup, typeIs_bytes _ _ _, getItem_meets (typeIs_bytes _ _ _) (by decide) FB.slot_bytes_getitem FB.entry_bytes_getitem (FB.args_bytes_getitem_2 _ _) (KBc.meets_slice2 b.toArray t _ hl hu)
    ⟨Heap.IsSliceOf.new _ _ _ _, Nat.le_trans (KBc.size_picked_le _ lo hi) (by rw [sizeLine_eq]; simpa using hz), fun t' k => by rw [cut_picked]; exact h _ _ _ (hF.push _) (News.pushKeep hN _)⟩⟩ hs ht
end
/-- one step of a line's reading -/
theorem endsCL_end (l : List UInt8) : endsCL (l ++ [13, 10]) = true := by
  unfold endsCL
  simp
  omega
theorem endsCL_no {l : List UInt8} (h : (10 : UInt8) ∉ l) : endsCL l = false := by
  unfold endsCL
  split
  · rfl
  · rename_i hl
    cases q : (l.toArray.extract (l.length - 2) l.length == #[13, 10]) with
    | false => rfl
    | true =>
      rw [beq_iff_eq] at q
      have e := congrArg Array.toList q
      simp at e
      have : (10 : UInt8) ∈ List.drop (l.length - 2) l := by
        have e' : List.drop (l.length - 2) l = [13, 10] := by
          first
            | exact e
            | (rw [← e, List.take_of_length_le]; simp)
        rw [e']; simp
      exact absurd (List.mem_of_mem_drop this) h
end Mine
end EzBy
section EzLn
open PySem PySem.W PyProof.Rows PySem.Calls
set_option maxRecDepth 100000
namespace Mine
theorem split10 : ∀ {a b x y : List UInt8}, (10 : UInt8) ∉ a → (10 : UInt8) ∉ b → a ++ 10 :: x = b ++ 10 :: y → a = b ∧ x = y
  | [], [], _, _, _, _, h => ⟨rfl, (List.cons.inj h).2⟩
  | [], _ :: _, _, _, _, hb, h => absurd (List.mem_cons.mpr (.inl (List.cons.inj h).1)) hb
  | _ :: _, [], _, _, ha, _, h => absurd (List.mem_cons.mpr (.inl (List.cons.inj h).1.symm)) ha
  | p :: a, q :: b, _, _, ha, hb, h => by
    obtain ⟨h1, h2⟩ := List.cons.inj h
    obtain ⟨e1, e2⟩ := split10 (fun q => ha (List.mem_cons_of_mem _ q)) (fun q => hb (List.mem_cons_of_mem _ q)) h2
    exact ⟨by rw [h1, e1], e2⟩
theorem lineOf_no {X : List UInt8} (h : (10 : UInt8) ∉ X) : lineOf X = X := by unfold lineOf; rw [if_neg h]
theorem idx_app : ∀ {A B : List UInt8}, (10 : UInt8) ∉ A → (A ++ 10 :: B).idxOf 10 = A.length
  | [], _, _ => by simp
  | x :: A, B, h => by
    have hne : x ≠ 10 := fun e => h (List.mem_cons.mpr (.inl e.symm))
    have h2 : (x == (10 : UInt8)) = false := by simpa using hne
    rw [List.cons_append, List.idxOf_cons, h2]
    simp only [cond_false, List.length_cons]
    rw [idx_app (fun q => h (List.mem_cons_of_mem _ q))]
theorem lineOf_yes {X : List UInt8} (h : (10 : UInt8) ∈ X) : ∃ A B, X = A ++ 10 :: B ∧ (10 : UInt8) ∉ A ∧ lineOf X = A ++ [10] ∧ X.drop (lineOf X).length = B := by
  obtain ⟨A, B, e, hA⟩ := List.append_of_mem h |> fun _ => (List.eq_append_cons_of_mem h)
  have i : X.idxOf 10 = A.length := by rw [e]; exact idx_app hA
  have l : lineOf X = A ++ [10] := by
    unfold lineOf
    rw [if_pos h, i, e, List.take_append, List.take_of_length_le (by omega)]
    simp
  refine ⟨A, B, e, hA, l, ?_⟩
  rw [l, e, List.drop_append]
  simp
theorem line_step {D X Y line R : List UInt8} (hD : (10 : UInt8) ∉ D) (hl : (10 : UInt8) ∉ line) (h : D ++ (X ++ Y) = line ++ 13 :: 10 :: R) :
    ((10 : UInt8) ∉ X ∧ lineOf X = X) ∨ (D ++ lineOf X = line ++ [13, 10] ∧ X.drop (lineOf X).length ++ Y = R) := by
  by_cases hX : (10 : UInt8) ∈ X
  · right
    obtain ⟨A, B, e, hA, l, d⟩ := lineOf_yes hX
    rw [d, l]
    subst e
    have h1 : (D ++ A) ++ 10 :: (B ++ Y) = (line ++ [13]) ++ 10 :: R := by simpa using h
    obtain ⟨e1, e2⟩ := split10 (fun q => (List.mem_append.mp q).elim hD hA) (fun q => (List.mem_append.mp q).elim hl (by decide)) h1
    refine ⟨?_, e2⟩
    rw [← List.append_assoc, e1]; simp
  · exact .inl ⟨hX, lineOf_no hX⟩
/-- the stream as it lies -/
structure Strm (bs : List UInt8) (q : Nat) (vs : List Value) (ps : List (List UInt8)) (R : List UInt8) : Prop where
  hq : q ≤ bs.length
  hP : PartsV vs ps
  hR : bs.drop q ++ ps.flatten = R
  hT : bs.length + ps.flatten.length < 90000
/-- in the midst of a line: D is read -/
def Mid (line R D : List UInt8) (bs : List UInt8) (q : Nat) (vs : List Value) (ps : List (List UInt8)) : Prop :=
  (D = line ++ [13, 10] ∧ Strm bs q vs ps R) ∨ ((10 : UInt8) ∉ D ∧ q = bs.length ∧ ∃ R0, Strm bs q vs ps R0 ∧ D ++ R0 = line ++ 13 :: 10 :: R)
theorem mid_first {line R bs : List UInt8} {q : Nat} {vs : List Value} {ps : List (List UInt8)} (hl : (10 : UInt8) ∉ line) (S : Strm bs q vs ps (line ++ 13 :: 10 :: R)) :
    Mid line R (lineOf (bs.drop q)) bs (q + (lineOf (bs.drop q)).length) vs ps := by
  obtain ⟨hq, hP, hR, hT⟩ := S
  have l1 := lineOf_le (bs.drop q)
  rw [List.length_drop] at l1
  rcases line_step (D := []) (by simp) hl (by simpa using hR) with ⟨h1, h2⟩ | ⟨h1, h2⟩
  · right
    rw [h2]
    have e : q + (bs.drop q).length = bs.length := by rw [List.length_drop]; omega
    refine ⟨h1, e, ps.flatten, ⟨by omega, hP, ?_, hT⟩, hR⟩
    rw [e, List.drop_length]; rfl
  · left
    refine ⟨by simpa using h1, by omega, hP, ?_, hT⟩
    rw [← h2, List.drop_drop]
theorem mid_go {line R D bs : List UInt8} {q : Nat} {vs : List Value} {ps : List (List UInt8)} (hl : (10 : UInt8) ∉ line) (hm : Mid line R D bs q vs ps) (he : endsCL D = false) :
    q = bs.length ∧ 0 < ps.flatten.length ∧ bs.length + ps.flatten.length < 90000 ∧ PartsV vs ps ∧ D.length ≤ line.length + 2 ∧ ∀ p vs' ps' tp, vs = .bytes p.toArray tp :: vs' → ps = p :: ps' → PartsV vs' ps' → 
      Mid line R (D ++ lineOf ((bs ++ p).drop q)) (bs ++ p) (q + (lineOf ((bs ++ p).drop q)).length) vs' ps' := by
  rcases hm with ⟨rfl, _⟩ | ⟨hD, rfl, R0, ⟨hq, hP, hR, hT⟩, hE⟩
  · rw [endsCL_end] at he; cases he
  have hR' : ps.flatten = R0 := by simpa using hR
  subst hR'
  have hlen : D.length ≤ line.length + 2 ∧ 0 < ps.flatten.length := by
    have h1 : ∀ x ∈ D, x ≠ 10 := fun x hx e => hD (e ▸ hx)
    have : ¬ line.length + 1 < D.length := fun h => by
      have e2 : (D ++ ps.flatten)[line.length + 1]? = some 10 := by
        rw [hE, List.getElem?_append_right (by omega)]
        simp
      rw [List.getElem?_append_left h] at e2
      exact h1 _ (List.mem_of_getElem? e2) rfl
    refine ⟨by omega, ?_⟩
    have := congrArg List.length hE
    simp only [List.length_append, List.length_cons] at this
    omega
  refine ⟨rfl, hlen.2, hT, hP, hlen.1, ?_⟩
  rintro p vs' ps' tp rfl rfl hP'
  have e0 : (bs ++ p).drop bs.length = p := by simp
  rw [e0]
  have hE' : D ++ (p ++ ps'.flatten) = line ++ 13 :: 10 :: R := by simpa using hE
  have hT' : (bs ++ p).length + ps'.flatten.length < 90000 := by
    simp only [List.flatten_cons, List.length_append] at hT ⊢; omega
  have l1 := lineOf_le p
  rcases line_step hD hl hE' with ⟨h1, h2⟩ | ⟨h1, h2⟩
  · right
    rw [h2]
    refine ⟨fun q => (List.mem_append.mp q).elim hD h1, by simp, ps'.flatten, ⟨by simp, hP', ?_, hT'⟩, by simpa using hE'⟩
    have : bs.length + p.length = (bs ++ p).length := by simp
    rw [this, List.drop_length]; rfl
  · left
    refine ⟨h1, by simp only [List.length_append]; omega, hP', ?_, hT'⟩
    rw [← h2]
    congr 1
    rw [List.drop_append]
    simp
theorem mid_end {line R D bs : List UInt8} {q : Nat} {vs : List Value} {ps : List (List UInt8)} (hm : Mid line R D bs q vs ps) (he : endsCL D = true) : D = line ++ [13, 10] ∧ Strm bs q vs ps R := by
  rcases hm with h | ⟨hD, _⟩
  · exact h
  · rw [endsCL_no hD] at he; cases he
theorem cut_m2 {line : List UInt8} : cut (line ++ [13, 10]) none (some (-2)) = line := by
  unfold cut
  have e : clipAt (line ++ [13, 10]).length (-2) = line.length := by
    unfold clipAt
    simp
    omega
  simp only [Option.elim_none, Option.elim_some]
  rw [e]
  simp
end Mine
end EzLn
section EzCR2
open PySem PySem.W PyProof.Rows PySem.Calls
namespace Mine
/-- the loop goes on with a smaller measure; a structure, so that no walk takes it apart -/
structure Again (I : Nat → Shared → Prop) (n : Nat) (s : Shared) : Prop where
  go : ∃ m, m < n ∧ I m s
section
variable {prog : Program} {w : World} {A : Around} {s : Shared} {env : Env}
theorem C_While2 {test body orelse pos} {Q : Flow → Shared → Prop} (I : Nat → Shared → Prop) (n : Nat) (h : I n s)
    (turn : ∀ n s, I n s → wpAny (model prog w) A (isTrue test env (eval test env)) (fun b s₂ =>
        if b then wpC (model prog w) A (execs body env) (fun f s₃ => match f with
            | .next | .cont => Again I n s₃
            | .brk => Q .next s₃
            | .ret v => Q (.ret v) s₃) s₂
        else wpC (model prog w) A (execs orelse env) Q s₂) noE s) :
    wpC (model prog w) A (exec (.While test body orelse pos) env) Q s := by
  refine C_While I n h fun n s hI => wpAny_mono (turn n s hI) (fun b s₂ h₂ => ?_) fun _ _ q => q
  cases b with
  | false => exact h₂
  | true =>
    simp only [if_true] at h₂ ⊢
    refine C_mono h₂ fun f s₃ q => ?_
    cases f <;> first | exact q | exact q.go
end
end Mine
namespace Mine
theorem Fr.cast {g h : Heap} {L : Addr} {m m' : PySem.Str → Option Value} (F : Fr g L h m) (e : m = m') : Fr g L h m' := e ▸ F
end Mine
namespace Mine
theorem mem1 {a : PySem.Str} (m : PySem.Str → Option Value) : (fun y => if y = a then m a else m y) = m := by
  funext y
  split
  · rename_i e; rw [e]
  · rfl
theorem over1 {a : PySem.Str} {x x' : Option Value} (m : PySem.Str → Option Value) : (fun y => if y = a then x else (if y = a then x' else m y)) = fun y => if y = a then x else m y := by
  funext y
  by_cases h1 : y = a
  · simp only [h1, if_true]
  · simp only [h1, if_false]
end Mine
end EzCR2
section EzLib2
open PySem PySem.W PyProof.Rows PySem.Calls
set_option maxRecDepth 100000
namespace Mine
section
variable {prog : Program} {w : World} {A : Around} {s : Shared} {R : Result → Shared → Prop}
theorem codeC_call_cells {a : Addr} {o : Obj} {fd : FuncData} {body : List Stmt} {args : Args} {binds : List (Str × Value)}
    (hroom : A.depth < recursionLimit) (ho : s.heap.get? a = some o) (hdata : o.data = .func fd) (hlim : s.heap.NoLimit) (hcd : s.heap.CodeRec fd.code fd.qualname)
    (hbody : fd.body = .stmts body) (hbind : BindsTo s fd args binds) (hclo : fd.closure = [])
    (hkind : ∀ x ∈ binds, fd.scope.names.lookup x.1 = some .local ∨ (fd.scope.names.lookup x.1 = some .cell ∧ ((cellsFrom (s.heap.objs.size + 1) fd.scope.names []).lookup x.1).isSome = true))
    (h : ∀ s₁, InCallC s (callEnvC fd s.heap.objs.size a).locals (bindL (callEnvC fd s.heap.objs.size a).kindOf binds fun _ => none) (callEnvC fd s.heap.objs.size a).cells
        (bindC (callEnvC fd s.heap.objs.size a).kindOf binds fun _ => none) s₁ →
      wpC (model prog w) (A.deeper (callEnvC fd s.heap.objs.size a)) (execs body (callEnvC fd s.heap.objs.size a)) (fun f s' => R (.ok (.ret (match f with | .ret v => v | _ => .none))) s') s₁)
    (hco : fd.scope.isCoroutine = false := by rfl) (hgen : fd.scope.isGenerator = false := by rfl) (hk : fd.scope.kind = .function := by rfl) :
    codeC (model prog w) A (.call (.ref a) args) R s := by
  refine codeC_tree rfl (C_of ?_)
  show wpAny _ A.in1 (callAny (.ref a) args) _ _ s
  simp only [callAny]
  refine wpAny_bind (wpAny_load ho ?_)
  obtain ⟨c, oc, vs, tq, hc, hoc, hdc, hq⟩ := id hcd
  simp only [hdata, callFunction, hco, hgen, hbody, hc]
  refine wpAny_bind (m := field (.ref c) 1) (wpAny_field hoc hdc hq (wpAny_bind (wpAny_pure ?_)))
  refine wpAny_bind (hbind _ _ _ _ ?_)
  have hc' : fd.code = .ref c := hc
  rw [← hc', hclo]
  refine wpAny_bind (wpAny_newFunctionEnv_cells hk hkind fun env he s' x => ?_)
  subst he
  refine wpAny_bind (wpAny_enterFrame (hlim.keeps x.toInCall.keep) hroom (wpAny_pure ⟨rfl, ?_⟩))
  exact codeC_func (h s' x)
end
section
variable {K : Frag} {prog : Program} {w : World} {p : Program} {loose : List Str} {mean : ExcName → Option Value} {mg mb : Str → Option Value} {n : Nat} {f : Addr} {args : List Value} {kw : List (Str × Value)} {W : List (Addr × Obj)} {Pre : Heap → Prop} {Post : Heap → Value → Heap → Prop}
  {dp un : Nat} {gd : Option (List Code)} {outer : List Env} {base g : Heap} {A₀ : Around} {s : Shared} {R : Result → Shared → Prop}
theorem enterCC {name qual : Str} {params : Arguments} {body : List Stmt} {scope : Scope} {dV kV doc pm cdv ct oc : Value} {an od : Option Addr} {osl : Array (Option Value)} {binds : List (Str × Value)}
    (st : g.StaysIn s.heap) (X : K.In g) (T : Top p loose mean mg mb g) (hW : ∀ q ∈ W, s.heap.get? q.1 = some q.2 ∧ g.get? q.1 = none) (hsz : g.objs.size ≤ s.heap.objs.size)
    (ho : K.lookup f = some ⟨oc, od, .func (fnOf name qual params body scope dV kV doc pm an cdv ct), osl⟩) (hcd : codeIn K cdv qual = true) (hroom : dp < recursionLimit)
    (hbind : BindsTo s (fnOf name qual params body scope dV kV doc pm an cdv ct) ⟨args, kw⟩ binds) (hkind : (binds.all fun y => scope.names.lookup y.1 == some .local || scope.names.lookup y.1 == some .cell) = true)
    (hnd : ((cellsFrom 0 scope.names []).map (·.1)).Nodup)
    (h : ∀ L' h₁ tk cells, Fr g L' h₁ (bindL (envOfC qual scope L' f cdv).kindOf binds fun _ => none) → News g L' h₁ (cells ++ W) →
      CellsAre (bindC (envOfC qual scope L' f cdv).kindOf binds fun _ => none) (cellsFrom (L' + 1) scope.names []) cells → (∀ q ∈ W, @LT.lt Nat _ q.1 L') →
      wpC (model prog w) ((Ar dp un gd outer).deeper (envOfC qual scope L' f cdv)) (execs body (envOfC qual scope L' f cdv))
        (fun fl s' => R (.ok (.ret (match fl with | .ret v => v | _ => .none))) s') { s with heap := h₁, toks := tk })
    (hco : scope.isCoroutine = false) (hgen : scope.isGenerator = false) (hk : scope.kind = .function) : codeC (model prog w) (Ar dp un gd outer) (.call (.ref f) ⟨args, kw⟩) R s := by
  refine codeC_call_cells (fd := fnOf name qual params body scope dV kV doc pm an cdv ct) (body := body) (binds := binds) hroom (st _ _ (X _ _ ho)) rfl (T.nolimit.keeps st) (codeRec_of (X.keeps st) hcd) rfl hbind rfl (kindsX hkind _) (fun s₁ x => ?_) hco hgen hk
  obtain ⟨h₁, tk, rfl, _⟩ := x.done
  have hk₁ := x.toInCall.keep
  obtain ⟨cells, NC, Y⟩ := Cl.news (h₀ := s.heap) (Nat.le_refl _) fun n c hm => ⟨x.cell n c (lookup_of_mem_nodup (cellsFrom_names scope.names 0 (s.heap.objs.size + 1) [] [] rfl ▸ hnd) hm), x.above n c hm⟩
  refine h s.heap.objs.size h₁ tk cells ⟨x.toInCall.ns, fun b o e => hk₁ b o (st b o e), hsz⟩ (fun q hq => ?_) Y fun q hq => Heap.lt_size (hW q hq).1
  rcases List.mem_append.mp hq with hq | hq
  · refine ⟨(NC q hq).1, (NC q hq).2.1, ?_⟩
    cases z : g.get? q.1 with
    | none => rfl
    | some o => have := st _ _ z; rw [(NC q hq).2.2] at this; cases this
  · exact ⟨hk₁ _ _ (hW q hq).1, Nat.ne_of_lt (Heap.lt_size (hW q hq).1), (hW q hq).2⟩
end
section
variable {prog : Program} {w : World} {A : Around} {s : Shared} {env : Env} {R : Result → Shared → Prop}
/-- the loop of a list's comprehension over clean contexts -/
theorem codeC_compLoop {elt target iter : Expr} {scope : Scope} {pos : Pos} {it acc : Value} {env : Env} (I : Nat → Shared → Prop)
    (turn : ∀ n s, I n s → wpAny (model prog w) A (pyNext it) (fun r s₁ => match r with
      | none => R (.ok .next) s₁
      | some v => wpAny (model prog w) A (assign target env v) (fun _ s₂ => wpC (model prog w) A (eval elt env) (fun x s₄ =>
          wpAny (model prog w) A (call (.builtin "list.append") [acc, x]) (fun _ s₅ => Again I n s₅) noE s₄) s₂) noE s₁) noE s)
    (n : Nat) (h : I n s) (ht : ∀ v, letOwnedTupleGo target it v = pure () := by intro _; rfl) :
    codeC (model prog w) A (.compLoop (.ListComp elt [⟨target, iter, [], 0⟩] scope pos) 0 it acc env) R s := by
  refine codeC_loop rfl rfl I (fun n s hI => ?_) n h
  rw [Around.under_of_weight rfl]
  show wpC _ A ((compTurn (.ListComp elt [⟨target, iter, [], 0⟩] scope pos) 0 it acc env).onRaise (fun x => do noteFrame x env; theTreesLotGoes x)) _ s
  refine C_onRaise ?_
  rw [compTurn_list]
  refine C_bind (C_standAt (C_bind (C_of (wpAny_mono (turn n s hI) (fun r s₁ h₁ => ?_) fun _ _ h' => h'))))
  cases r with
  | none => exact C_pure h₁
  | some v =>
    dsimp only at h₁ ⊢
    rw [ht v]
    refine C_bind (C_pure ?_)
    refine C_bindK (wpAny_mono h₁ (fun _ s₂ h₂ => ?_) fun _ _ h' => h')
    simp only [List.forIn_nil]
    refine C_bind (C_pure ?_)
    simp only [if_true]
    refine C_bind (C_bind (C_mono h₂ (fun x s₄ h₄ => C_bindK (wpAny_mono h₄ (fun _ s₅ h₅ => C_pure (C_pure ?_)) fun _ _ h' => h'))))
    exact .inl ⟨rfl, h₅.go⟩
end
end Mine
end EzLib2
section EzExc
open PySem PySem.W PyProof.Rows PySem.Calls Builtin
set_option maxRecDepth 100000
set_option maxHeartbeats 1000000
namespace Mine
abbrev excBm : List Value := [.type "Exception", .type "BaseException", .type "object"]
/-- an exception of a class of the text's, as it is made -/
abbrev excOb (C t : Addr) (d : Option Addr := none) : Obj := { cls := .ref C, dict := d, data := .fields #[.ref t, .none, .none, .none, .bool false, .none] }
abbrev tupOb (vs : List Value) : Obj := { cls := .type "tuple", data := .seq vs.toArray }
section
variable {M : Model} {A : Around} {E : Value → Shared → Prop} {h : Heap} {g : Array GenState} {d : Drawn} {t : Nat} {os : OsState}
variable {nm q : PySem.Str} {C D N : Addr} {bs : List Value} {hdct : Bool} {sn : List PySem.Str} {sub : List Value} {ab : Bool} {col : Option Bool} {dd : Option Addr} {k0 k1 k2 k3 k5 : Option Value}
theorem exc_check_new {rest : List Value} {kn : PySem.Str} {kv : Value} {Q : Unit → Shared → Prop} (hC : h.get? C = some (excClassObj nm q C N bs (.ref D :: excBm) hdct sn sub ab col dd k0 k1 k2 k3 k5 "Exception.__new__"))
    (hq : Q () ⟨h, g, d, t, os⟩) : wpAny M A (checkBuiltinCall "Exception.__new__" ⟨.ref C :: rest, [(kn, kv)]⟩) Q E ⟨h, g, d, t, os⟩ := by
  have Fn := PySem.F.excBase_Exception
  have hcont : (Value.ref C :: .ref D :: excBm).contains (.type "Exception") = true := by
    rw [List.contains_cons, List.contains_cons, Fn.hasB, Bool.or_true, Bool.or_true]
  have hstar := Fn.noStar
  simp only [checkBuiltinCall, Fn.newKind, Fn.newSplit, Fn.newRow]
  repeat (first | with_reducible refine wpAny_loadPart_at hC ?_ | (with_reducible refine wpAny_isSubtype_exc hC ?_; rw [hcont]) | with_reducible refine wpAny_staticBase_exc hC ?_ | with_reducible refine wpAny_madeBy_exc hC ?_ | simp only [bne_self_eq_false, Bool.false_eq_true, if_false] | wp_step)
  exact hq
theorem exc_check_new0 {rest : List Value} {Q : Unit → Shared → Prop} (hC : h.get? C = some (excClassObj nm q C N bs (.ref D :: excBm) hdct sn sub ab col dd k0 k1 k2 k3 k5 "Exception.__new__"))
    (hq : Q () ⟨h, g, d, t, os⟩) : wpAny M A (checkBuiltinCall "Exception.__new__" ⟨.ref C :: rest, []⟩) Q E ⟨h, g, d, t, os⟩ := by
  have Fn := PySem.F.excBase_Exception
  have hcont : (Value.ref C :: .ref D :: excBm).contains (.type "Exception") = true := by
    rw [List.contains_cons, List.contains_cons, Fn.hasB, Bool.or_true, Bool.or_true]
  have hstar := Fn.noStar
  simp only [checkBuiltinCall, Fn.newKind, Fn.newSplit, Fn.newRow]
  repeat (first | with_reducible refine wpAny_loadPart_at hC ?_ | (with_reducible refine wpAny_isSubtype_exc hC ?_; rw [hcont]) | with_reducible refine wpAny_staticBase_exc hC ?_ | with_reducible refine wpAny_madeBy_exc hC ?_ | simp only [bne_self_eq_false, Bool.false_eq_true, if_false] | wp_step)
  exact hq
end
section
variable {prog : Program} {w : World} {A : Around} {R : Result → Shared → Prop} {h : Heap} {g : Array GenState} {d : Drawn} {t : Nat} {os : OsState}
variable {nm q : PySem.Str} {C D N : Addr} {bs : List Value} {hdct : Bool} {sn : List PySem.Str} {sub : List Value} {ab : Bool} {col : Option Bool} {dd : Option Addr} {k0 k1 k2 k3 k5 : Option Value}
theorem exc_new {rest : List Value} {kw : List (PySem.Str × Value)} (hC : h.get? C = some (excClassObj nm q C N bs (.ref D :: excBm) hdct sn sub ab col dd k0 k1 k2 k3 k5 "Exception.__new__"))
    (hq : R (.ok (.ret (.ref (h.objs.size + 1)))) ⟨(h.push (tupOb rest)).push (excOb C h.objs.size), g, d, t, os⟩) (hrest : rest.length ≤ sizeLine) :
    codeAny (model prog w) A (.builtin "Exception.__new__" ⟨.ref C :: rest, kw⟩) R ⟨h, g, d, t, os⟩ := by
  have Fn := PySem.F.excBase_Exception
  have hends := Fn.ends
  have hcB : (Value.ref C :: .ref D :: excBm).contains (.type "Exception") = true := by rw [List.contains_cons, List.contains_cons, Fn.hasB, Bool.or_true, Bool.or_true]
  have hcA : (Value.ref C :: .ref D :: excBm).contains (.type "AttributeError") = false := by rw [List.contains_cons, List.contains_cons, Fn.noAttr]; rfl
  have hcN : (Value.ref C :: .ref D :: excBm).contains (.type "NameError") = false := by rw [List.contains_cons, List.contains_cons, Fn.noName]; rfl
  refine codeAny_builtinAt Fn.entry ?_
  unfold Builtin.«BaseException.__new__»
  refine _root_.PySem.wpAt_bind ?_
  show _root_.PySem.wpAt _ _ _ (stack >>= _) _ _ _
  refine _root_.PySem.wpAt_bind (_root_.PySem.wpAt_stack fun p below => _root_.PySem.wpAt_of_wpAny ?_)
  wp_walk
  refine _root_.PySem.wpAt_of_wpAny ?_
  rw [Fn.owner]
  repeat (first | with_reducible refine wpAny_madeHere_exc Fn.canon hC ?_ | with_reducible refine wpAny_loadPart_at hC ?_ | (with_reducible refine wpAny_isSubtype_exc hC ?_; first | rw [hcB] | rw [hcA] | rw [hcN]) | wp_step)
  show R _ _
  rw [Heap.size_push]
  exact hq
end
end Mine
end EzExc
section EzVal
open PySem PySem.W PyProof.Rows PySem.Calls
set_option maxRecDepth 100000
namespace Mine
def octT : Nat → PySem.Str
  | 0 => PySem.Str.ofString "" | 1 => PySem.Str.ofString "a" | 2 => PySem.Str.ofString "b\r\nc" | 3 => PySem.Str.ofString "é" | 4 => PySem.Str.ofString "$3" | 5 => PySem.Str.ofString "-1" | _ => PySem.Str.ofString "*2\r\n"
def octB : Nat → List UInt8
  | 0 => [] | 1 => [97] | 2 => [98, 13, 10, 99] | 3 => [195, 169] | 4 => [36, 51] | 5 => [45, 49] | _ => [42, 50, 13, 10]
def lineT : Nat → PySem.Str
  | 0 => PySem.Str.ofString "" | 1 => PySem.Str.ofString "OK" | 2 => PySem.Str.ofString " x" | _ => PySem.Str.ofString "1"
def lineB : Nat → List UInt8
  | 0 => [] | 1 => [79, 75] | 2 => [32, 120] | _ => [49]
def errT : Nat → PySem.Str
  | 0 => PySem.Str.ofString "ERR no" | 1 => PySem.Str.ofString "oops" | 2 => PySem.Str.ofString "WRONGTYPE a b" | _ => PySem.Str.ofString "ERR"
def errB : Nat → List UInt8
  | 0 => [69, 82, 82, 32, 110, 111] | 1 => [111, 111, 112, 115] | 2 => [87, 82, 79, 78, 71, 84, 89, 80, 69, 32, 97, 32, 98] | _ => [69, 82, 82]
/-- what an error tells -/
def errA : Nat → PySem.Str
  | 0 => PySem.Str.ofString "no" | 1 => PySem.Str.ofString "oops" | 2 => PySem.Str.ofString "WRONGTYPE a b" | _ => PySem.Str.ofString ""
inductive Vl where
  | list (xs : List Vl)
  | null
  | non
  | num (z : Int)
  | line (i : Nat)
  | err (i : Nat)
  | oct (i : Nat)
inductive Wf : Nat → Vl → Prop
  | list {d xs} : xs.length < 4 → (∀ x ∈ xs, Wf d x) → Wf (d + 1) (.list xs)
  | null {d} : Wf d .null
  | non {d} : Wf d .non
  | num {d z} : -(10 ^ 7 : Int) < z → z < 10 ^ 7 → Wf d (.num z)
  | line {d i} : Wf d (.line i)
  | err {d i} : Wf d (.err i)
  | oct {d i} : Wf d (.oct i)
mutual
def Vl.wr : Vl → List UInt8
  | .list xs => 42 :: nb xs.length ++ 13 :: 10 :: wrs xs
  | .null => 36 :: [45, 49] ++ [13, 10]
  | .non => 42 :: [45, 49] ++ [13, 10]
  | .num z => 58 :: nb z ++ [13, 10]
  | .line i => 43 :: lineB i ++ [13, 10]
  | .err i => 45 :: errB i ++ [13, 10]
  | .oct i => 36 :: nb (octB i).length ++ 13 :: 10 :: (octB i ++ [13, 10])
def wrs : List Vl → List UInt8
  | [] => []
  | x :: xs => x.wr ++ wrs xs
end
mutual
/-- what the parser gives for a value -/
def Got (P : Addr → Obj → Prop) (dec : Bool) : Vl → Value → Prop
  | .list xs, v => ∃ l vs n, v = .ref l ∧ P l (listOf (List.toArray vs) n) ∧ Gots P dec xs vs
  | .null, v => v = .none
  | .non, v => v = .none
  | .num z, v => ∃ t, v = .int z t
  | .line i, v => if dec then ∃ t, v = .str (lineT i) t else ∃ t, v = .bytes (lineB i).toArray t
  | .err i, v => ∃ e t dx ta, v = .ref e ∧ P e (excOb 102 t (some dx)) ∧ P t (tupOb [.str (errA i) ta])
  | .oct i, v => if dec then ∃ t, v = .str (octT i) t else ∃ t, v = .bytes (octB i).toArray t
def Gots (P : Addr → Obj → Prop) (dec : Bool) : List Vl → List Value → Prop
  | [], [] => True
  | x :: xs, v :: vs => Got P dec x v ∧ Gots P dec xs vs
  | _, _ => False
end
mutual
/-- a value of the law's, as it lies -/
def Lay (P : Addr → Obj → Prop) : Vl → Value → Prop
  | .list xs, v => ∃ a n t r vs k, v = .ref a ∧ P a (listOf (List.toArray [.str (PySem.Str.ofString "list") t, .ref r]) n) ∧ P r (listOf (List.toArray vs) k) ∧ Lays P xs vs
  | .null, v => ∃ a n t, v = .ref a ∧ P a (listOf (List.toArray [.str (PySem.Str.ofString "null") t, .none]) n)
  | .non, v => ∃ a n t, v = .ref a ∧ P a (listOf (List.toArray [.str (PySem.Str.ofString "none") t, .none]) n)
  | .num z, v => ∃ a n t u, v = .ref a ∧ P a (listOf (List.toArray [.str (PySem.Str.ofString "number") t, .int z u]) n)
  | .line i, v => ∃ a n t u, v = .ref a ∧ P a (listOf (List.toArray [.str (PySem.Str.ofString "line") t, .str (lineT i) u]) n)
  | .err i, v => ∃ a n t u, v = .ref a ∧ P a (listOf (List.toArray [.str (PySem.Str.ofString "error") t, .str (errT i) u]) n)
  | .oct i, v => ∃ a n t u, v = .ref a ∧ P a (listOf (List.toArray [.str (PySem.Str.ofString "octets") t, .str (octT i) u]) n)
def Lays (P : Addr → Obj → Prop) : List Vl → List Value → Prop
  | [], [] => True
  | x :: xs, v :: vs => Lay P x v ∧ Lays P xs vs
  | _, _ => False
end
section
variable {P P' : Addr → Obj → Prop} (hP : ∀ a o, P a o → P' a o) {dec : Bool}
include hP
mutual
theorem Got.mono : ∀ {x : Vl} {v : Value}, Got P dec x v → Got P' dec x v
  | .list xs, v, h => by
    unfold Got at h ⊢
    obtain ⟨l, vs, n, e, h1, h2⟩ := h
    exact ⟨l, vs, n, e, hP _ _ h1, Gots.mono h2⟩
  | .null, _, h => by unfold Got at h ⊢; exact h
  | .non, _, h => by unfold Got at h ⊢; exact h
  | .num _, _, h => by unfold Got at h ⊢; exact h
  | .line _, _, h => by unfold Got at h ⊢; exact h
  | .oct _, _, h => by unfold Got at h ⊢; exact h
  | .err i, v, h => by
    unfold Got at h ⊢
    obtain ⟨e, t, dx, ta, e1, h1, h2⟩ := h
    exact ⟨e, t, dx, ta, e1, hP _ _ h1, hP _ _ h2⟩
theorem Gots.mono : ∀ {xs : List Vl} {vs : List Value}, Gots P dec xs vs → Gots P' dec xs vs
  | [], [], _ => by unfold Gots; trivial
  | x :: xs, v :: vs, h => by
    unfold Gots at h ⊢
    exact ⟨Got.mono h.1, Gots.mono h.2⟩
  | [], _ :: _, h => by unfold Gots at h; exact h.elim
  | _ :: _, [], h => by unfold Gots at h; exact h.elim
end
mutual
theorem Lay.mono : ∀ {x : Vl} {v : Value}, Lay P x v → Lay P' x v
  | .list xs, v, h => by
    unfold Lay at h ⊢
    obtain ⟨a, n, t, r, vs, k, e, h1, h2, h3⟩ := h
    exact ⟨a, n, t, r, vs, k, e, hP _ _ h1, hP _ _ h2, Lays.mono h3⟩
  | .null, _, h => by unfold Lay at h ⊢; obtain ⟨a, n, t, e, h1⟩ := h; exact ⟨a, n, t, e, hP _ _ h1⟩
  | .non, _, h => by unfold Lay at h ⊢; obtain ⟨a, n, t, e, h1⟩ := h; exact ⟨a, n, t, e, hP _ _ h1⟩
  | .num _, _, h => by unfold Lay at h ⊢; obtain ⟨a, n, t, u, e, h1⟩ := h; exact ⟨a, n, t, u, e, hP _ _ h1⟩
  | .line _, _, h => by unfold Lay at h ⊢; obtain ⟨a, n, t, u, e, h1⟩ := h; exact ⟨a, n, t, u, e, hP _ _ h1⟩
  | .oct _, _, h => by unfold Lay at h ⊢; obtain ⟨a, n, t, u, e, h1⟩ := h; exact ⟨a, n, t, u, e, hP _ _ h1⟩
  | .err _, _, h => by unfold Lay at h ⊢; obtain ⟨a, n, t, u, e, h1⟩ := h; exact ⟨a, n, t, u, e, hP _ _ h1⟩
theorem Lays.mono : ∀ {xs : List Vl} {vs : List Value}, Lays P xs vs → Lays P' xs vs
  | [], [], _ => by unfold Lays; trivial
  | x :: xs, v :: vs, h => by
    unfold Lays at h ⊢
    exact ⟨Lay.mono h.1, Lays.mono h.2⟩
  | [], _ :: _, h => by unfold Lays at h; exact h.elim
  | _ :: _, [], h => by unfold Lays at h; exact h.elim
end
end
theorem wrs_append (xs ys : List Vl) : wrs (xs ++ ys) = wrs xs ++ wrs ys := by
  induction xs with
  | nil => rfl
  | cons x xs ih => simp only [List.cons_append, wrs, ih, List.append_assoc]
theorem Gots.snoc {P : Addr → Obj → Prop} {dec : Bool} : ∀ {xs : List Vl} {vs : List Value} {x : Vl} {v : Value}, Gots P dec xs vs → Got P dec x v → Gots P dec (xs ++ [x]) (vs ++ [v])
  | [], [], _, _, _, h => by
    show Gots P dec [_] [_]
    unfold Gots Gots; exact ⟨h, trivial⟩
  | x :: xs, v :: vs, y, u, h1, h2 => by
    show Gots P dec (x :: (xs ++ [y])) (v :: (vs ++ [u]))
    unfold Gots at h1 ⊢
    exact ⟨h1.1, Gots.snoc h1.2 h2⟩
  | [], _ :: _, _, _, h, _ => by unfold Gots at h; exact h.elim
  | _ :: _, [], _, _, h, _ => by unfold Gots at h; exact h.elim
theorem Lays.snoc {P : Addr → Obj → Prop} : ∀ {xs : List Vl} {vs : List Value} {x : Vl} {v : Value}, Lays P xs vs → Lay P x v → Lays P (xs ++ [x]) (vs ++ [v])
  | [], [], _, _, _, h => by
    show Lays P [_] [_]
    unfold Lays Lays; exact ⟨h, trivial⟩
  | x :: xs, v :: vs, y, u, h1, h2 => by
    show Lays P (x :: (xs ++ [y])) (v :: (vs ++ [u]))
    unfold Lays at h1 ⊢
    exact ⟨h1.1, Lays.snoc h1.2 h2⟩
  | [], _ :: _, _, _, h, _ => by unfold Lays at h; exact h.elim
  | _ :: _, [], _, _, h, _ => by unfold Lays at h; exact h.elim
theorem Gots.len {P : Addr → Obj → Prop} {dec : Bool} : ∀ {xs : List Vl} {vs : List Value}, Gots P dec xs vs → vs.length = xs.length
  | [], [], _ => rfl
  | _ :: _, _ :: _, h => by unfold Gots at h; rw [List.length_cons, List.length_cons, Gots.len h.2]
  | [], _ :: _, h => by unfold Gots at h; exact h.elim
  | _ :: _, [], h => by unfold Gots at h; exact h.elim
theorem Lays.len {P : Addr → Obj → Prop} : ∀ {xs : List Vl} {vs : List Value}, Lays P xs vs → vs.length = xs.length
  | [], [], _ => rfl
  | _ :: _, _ :: _, h => by unfold Lays at h; rw [List.length_cons, List.length_cons, Lays.len h.2]
  | [], _ :: _, h => by unfold Lays at h; exact h.elim
  | _ :: _, [], h => by unfold Lays at h; exact h.elim
end Mine
end EzVal
section EzAt2
open PySem PySem.W PyProof.Rows PySem.Calls
set_option maxRecDepth 100000
namespace Mine
section
variable {w : World} {p : Program} {loose : List Str} {mean : ExcName → Option Value} {mg mb : Str → Option Value} {dp un : Nat} {gd : Option (List Code)} {outer : List Env} {base g : Heap} {A₀ : Around} {s : Shared} {cn : Str} {cs : Scope} {L a : Addr} {ccd : Value} {cl : List (Str × Addr)} {m : Str → Option Value}
theorem c_at {Q E : Value → Shared → Prop} {l : Addr} {vs : List Value} {ns : List Int} {k : Int} {u : Tok} {news : List (Addr × Obj)} (B : Below A₀ base outer g) (F : Fr g L s.heap m) (X : (Mine.frag.heap_1 w.params).In g) (T : Top p loose mean mg mb g)
    (N : News g L s.heap news) (hl : g.IsList l vs.toArray) (hi : IntsAre vs ns) (hlen : ns.length ≤ 63) (hk : cs.kind = .function) (h0 : 0 ≤ k) (h1 : k < 1000000) (hd : dp + 1 < recursionLimit) (hu : un + 8 * 1 < cLine)
    (h : ∀ h' t' z tz, Fr g L h' m → News g L h' news → Q (.int z tz) { s with heap := h', toks := t' }) :
    wpAny (model PySem.Challenge.rw_ez0337_01.row.prog w) (Ar dp un gd (envX cn cs L a ccd cl :: outer)) (call (.ref 1125) [.ref l, .int k u] []) Q E s := by
  refine use (law_at_does w p loose mean mg mb l vs ns hi hlen k h0 h1 u) B F X N T hk (keepL := news) (fun _ q => nomatch q) (fun q hq => ⟨hq, fun hm => nomatch hm⟩) (fun g' st _ => ?_) hd hu ?_
  · obtain ⟨o, e, r⟩ := hl
    exact ⟨o, st _ _ e, r⟩
  intro v₄ h₄ t₄ g₄ F₄ N₄ st₄ kp₄ st₄' post₄ bld
  obtain ⟨z, tz, rfl⟩ := post₄
  exact h h₄ t₄ z tz F₄ N₄
end
end Mine
end EzAt2
section EzTab
open PySem PySem.W PyProof.Rows PySem.Calls
set_option maxRecDepth 100000
namespace Mine
section
variable {prog : Program} {w : World} {A : Around} {E : Value → Shared → Prop} {s : Shared} {value slice : PySem.Expr} {h₀ : Heap} {L D : Addr} {news : List (Addr × Obj)} {n : Nat} {u : Tok} {Q : Value → Shared → Prop}
theorem item_of {k : Int} {items : List Value} {P : Value → Prop} (N : News h₀ L s.heap news) (hm : (D, listOf items.toArray n) ∈ news) (h0 : 0 ≤ k) (hk : k < items.length) (hb : items.length < 100) (hP : ∀ v ∈ items, P v) (h : ∀ v, P v → Q v s)
    (hs : subscripted slice false (.ref D) (.int k u) = operate [.ref D, .int k u] (getItem (.ref D) (.int k u))) :
    wpAny (model prog w) A (subscriptTail value slice (.ref D) (.int k u)) Q E s := by
  have hl : s.heap.IsList D items.toArray := ⟨_, (N _ hm).1, rfl, _, rfl⟩
  have hkn : k.toNat < items.length := by omega
  have hx : items[k.toNat]? = some items[k.toNat] := List.getElem?_eq_getElem hkn
  exact tail_any hl.typeIs slot_list_getitem.lookup (wpAny_getItem_list hl h0 (by omega) (by simp [hx]) (h _ (hP _ (List.getElem_mem hkn)))) hs
theorem fm (x : Int) {b : Int} (hb : 0 < b) : 0 ≤ x.fmod b ∧ x.fmod b < b := ⟨Int.fmod_nonneg_of_pos _ hb, Int.fmod_lt_of_pos _ hb⟩
theorem item_oct {x : Int} {t0 t1 t2 t3 t4 t5 t6 : Tok} (N : News h₀ L s.heap news) (hm : (D, listOf #[.str (PySem.Str.ofString "") t0, .str (PySem.Str.ofString "a") t1, .str (PySem.Str.ofString "b\r\nc") t2, .str (PySem.Str.ofString "é") t3, .str (PySem.Str.ofString "$3") t4, .str (PySem.Str.ofString "-1") t5, .str (PySem.Str.ofString "*2\r\n") t6] n) ∈ news)
    (hs : subscripted slice false (.ref D) (.int (x.fmod 7) u) = operate [.ref D, .int (x.fmod 7) u] (getItem (.ref D) (.int (x.fmod 7) u))) (h : ∀ i t, Q (.str (octT i) t) s) :
    wpAny (model prog w) A (subscriptTail value slice (.ref D) (.int (x.fmod 7) u)) Q E s := by
  refine item_of (items := [.str (PySem.Str.ofString "") t0, .str (PySem.Str.ofString "a") t1, .str (PySem.Str.ofString "b\r\nc") t2, .str (PySem.Str.ofString "é") t3, .str (PySem.Str.ofString "$3") t4, .str (PySem.Str.ofString "-1") t5, .str (PySem.Str.ofString "*2\r\n") t6]) (P := fun v => ∃ i t, v = .str (octT i) t) N hm (fm x (by decide)).1 (fm x (by decide)).2 (by show 7 < 100; decide) ?_ ?_ hs
  · intro v hv
    simp only [List.mem_cons, List.not_mem_nil, or_false] at hv
    rcases hv with rfl | rfl | rfl | rfl | rfl | rfl | rfl
    · exact ⟨0, _, rfl⟩
    · exact ⟨1, _, rfl⟩
    · exact ⟨2, _, rfl⟩
    · exact ⟨3, _, rfl⟩
    · exact ⟨4, _, rfl⟩
    · exact ⟨5, _, rfl⟩
    · exact ⟨6, _, rfl⟩
  · rintro v ⟨i, t, rfl⟩
    exact h i t
theorem item_line {x : Int} {t0 t1 t2 t3 : Tok} (N : News h₀ L s.heap news) (hm : (D, listOf #[.str (PySem.Str.ofString "") t0, .str (PySem.Str.ofString "OK") t1, .str (PySem.Str.ofString " x") t2, .str (PySem.Str.ofString "1") t3] n) ∈ news)
    (hs : subscripted slice false (.ref D) (.int (x.fmod 4) u) = operate [.ref D, .int (x.fmod 4) u] (getItem (.ref D) (.int (x.fmod 4) u))) (h : ∀ i t, Q (.str (lineT i) t) s) :
    wpAny (model prog w) A (subscriptTail value slice (.ref D) (.int (x.fmod 4) u)) Q E s := by
  refine item_of (items := [.str (PySem.Str.ofString "") t0, .str (PySem.Str.ofString "OK") t1, .str (PySem.Str.ofString " x") t2, .str (PySem.Str.ofString "1") t3]) (P := fun v => ∃ i t, v = .str (lineT i) t) N hm (fm x (by decide)).1 (fm x (by decide)).2 (by show 4 < 100; decide) ?_ ?_ hs
  · intro v hv
    simp only [List.mem_cons, List.not_mem_nil, or_false] at hv
    rcases hv with rfl | rfl | rfl | rfl
    · exact ⟨0, _, rfl⟩
    · exact ⟨1, _, rfl⟩
    · exact ⟨2, _, rfl⟩
    · exact ⟨3, _, rfl⟩
  · rintro v ⟨i, t, rfl⟩
    exact h i t
theorem item_err {x : Int} {t0 t1 t2 t3 : Tok} (N : News h₀ L s.heap news) (hm : (D, listOf #[.str (PySem.Str.ofString "ERR no") t0, .str (PySem.Str.ofString "oops") t1, .str (PySem.Str.ofString "WRONGTYPE a b") t2, .str (PySem.Str.ofString "ERR") t3] n) ∈ news)
    (hs : subscripted slice false (.ref D) (.int (x.fmod 4) u) = operate [.ref D, .int (x.fmod 4) u] (getItem (.ref D) (.int (x.fmod 4) u))) (h : ∀ i t, Q (.str (errT i) t) s) :
    wpAny (model prog w) A (subscriptTail value slice (.ref D) (.int (x.fmod 4) u)) Q E s := by
  refine item_of (items := [.str (PySem.Str.ofString "ERR no") t0, .str (PySem.Str.ofString "oops") t1, .str (PySem.Str.ofString "WRONGTYPE a b") t2, .str (PySem.Str.ofString "ERR") t3]) (P := fun v => ∃ i t, v = .str (errT i) t) N hm (fm x (by decide)).1 (fm x (by decide)).2 (by show 4 < 100; decide) ?_ ?_ hs
  · intro v hv
    simp only [List.mem_cons, List.not_mem_nil, or_false] at hv
    rcases hv with rfl | rfl | rfl | rfl
    · exact ⟨0, _, rfl⟩
    · exact ⟨1, _, rfl⟩
    · exact ⟨2, _, rfl⟩
    · exact ⟨3, _, rfl⟩
  · rintro v ⟨i, t, rfl⟩
    exact h i t
theorem item_num {x y : Int} {t0 t1 t2 : Tok} (N : News h₀ L s.heap news) (hm : (D, listOf #[.int (y.fmod 100000) t0, .int (-(y.fmod 100000)) t1, .int (10 * y.fmod 100000) t2] n) ∈ news)
    (hs : subscripted slice false (.ref D) (.int (x.fmod 3) u) = operate [.ref D, .int (x.fmod 3) u] (getItem (.ref D) (.int (x.fmod 3) u))) (h : ∀ z t, -(10 ^ 7 : Int) < z → z < 10 ^ 7 → Q (.int z t) s) :
    wpAny (model prog w) A (subscriptTail value slice (.ref D) (.int (x.fmod 3) u)) Q E s := by
  have b1 := fm y (b := 100000) (by decide)
  refine item_of (items := [.int (y.fmod 100000) t0, .int (-(y.fmod 100000)) t1, .int (10 * y.fmod 100000) t2]) (P := fun v => ∃ z t, v = .int z t ∧ -(10 ^ 7 : Int) < z ∧ z < 10 ^ 7) N hm (fm x (by decide)).1 (fm x (by decide)).2 (by show 3 < 100; decide) ?_ ?_ hs
  · intro v hv
    simp only [List.mem_cons, List.not_mem_nil, or_false] at hv
    rcases hv with rfl | rfl | rfl <;> exact ⟨_, _, rfl, by omega, by omega⟩
  · rintro v ⟨z, t, rfl, h1, h2⟩
    exact h z t h1 h2
end
end Mine
end EzTab
section EzRF
open PySem PySem.W PyProof.Rows PySem.Calls
namespace Mine
set_option maxRecDepth 100000
set_option maxHeartbeats 1000000
local macro_rules | `(tactic| k_in) => `(tactic| first | k_in_fast | exact Frag.In.keeps (by k_asm) (Fr.keep (by k_asm)))
local macro_rules | `(tactic| k_room) => `(tactic| ktr_room)
local macro_rules | `(tactic| k_units) => `(tactic| ktr_units)
local macro_rules | `(tactic| k_ne) => `(tactic| (refine neN ?_; (try dsimp only); (with_reducible rename Ne6 _ _ _ _ _ _ => kNe); first | exact kNe.m1 | exact kNe.s1 | exact kNe.m2 | exact kNe.s2 | exact kNe.m3 | exact kNe.s3 | exact kNe.m4 | exact kNe.s4 | exact kNe.m5 | exact kNe.s5 | exact kNe.m6 | exact kNe.s6 | exact kNe.m7 | exact kNe.s7 | exact kNe.m8 | exact kNe.s8 | exact kNe.m9 | exact kNe.s9 | exact kNe.m10 | exact kNe.s10 | exact kNe.m11 | exact kNe.s11 | exact kNe.m12 | exact kNe.s12 | exact kNe.m13 | exact kNe.s13 | exact kNe.m14 | exact kNe.s14 | exact kNe.m15 | exact kNe.s15 | omega))
local macro_rules | `(tactic| k_fill) => `(tactic| (k_with_none; (k_with "eval Name" => (k_here; k_dflt (first | (refine' nameX_K ?F ?X ?T ?e ?_ ?a ?b ?c; (case F => k_asm); (case X => k_asm); (case T => k_asm); (case e => k_is); (case a => kernel_rfl); (case b => kernel_rfl); (case c => kernel_rfl); k_whole) | (refine' nameX_C ?N ?h ?m ?d ?_ ?a ?b ?c; (case h => rfl); (case N => k_asm); (case m => k_mem); (case d => k_asm); (case a => kernel_rfl); (case b => kernel_rfl); (case c => kernel_rfl); k_whole) | (refine' nameX_L ?F ?v ?_ ?a ?b ?c; (case F => k_asm); (case v => rfl); (case a => kernel_rfl); (case b => kernel_rfl); (case c => kernel_rfl); k_whole) | (refine' nameX_B ?F ?X ?T ?e ?v ?n ?_ ?a ?b ?c; (case F => k_asm); (case X => k_asm); (case T => k_asm); (case e => k_is); (case v => boot_fast); (case n => decide); (case a => kernel_rfl); (case b => kernel_rfl); (case c => kernel_rfl); k_whole)))); (k_with "ite" => (k_closed; first | (refine ite_pos ?h ?_; (case h => k_dflt (decide +kernel))) | (refine ite_neg ?h ?_; (case h => k_dflt (decide +kernel))))); (k_with "call builtin:len" => (k_here; (with_reducible show wpAny _ _ (call (Value.builtin "len") [Value.ref _]) _ _ _); k_dflt (refine' ba_len_K ?k1 ?k2 ?k3 ?_; (case k1 => k_asm); (case k2 => k_mem); (case k3 => omega); k_whole); intro t' k')); (k_with "call type:bytes" => (k_here; (with_reducible show wpAny _ _ (call (Value.type "bytes") [Value.ref _]) _ _ _); k_dflt (refine' ba_bytes_K ?k1 ?k2 ?k3 ?_; (case k1 => k_asm); (case k2 => k_mem); (case k3 => exact Nat.lt_of_le_of_lt (KBc.size_picked_le _ _ _) (by omega)); k_whole); intro t' k')); (k_with "subscriptTail" => (k_here; (with_reducible show wpAny _ _ (subscriptTail _ _ (Value.ref _) (Value.ref _)) _ _ _); k_dflt (refine' ba_slice_K ?k1 ?k2 ?k3 ?k4 ?k5 ?k6 ?_ ?k7 ?k8; (case k1 => k_asm); (case k2 => k_asm); (case k3 => k_mem); (case k4 => constructor); (case k5 => constructor); (case k6 => omega); (case k7 => with_unfolding_all rfl); (case k8 => intro _; with_unfolding_all rfl); k_whole); intro x' h' F' N' l1; (try k_lt l1); (try k_sweep))); (k_with "getMethod ref" => (k_here; (with_reducible show wpAny _ _ (getMethod (Value.ref _) (PySem.Str.ofString "find") _) _ _ _); k_dflt (refine' ba_method_K ?k1 ?k2 ?_; (case k1 => k_asm); (case k2 => k_mem); k_whole))); (k_with "call builtin:bytearray.find" => (k_here; k_dflt (refine' ba_find_K ?k1 ?k2 ?k3 ?k4 ?k5 ?_; (case k1 => k_asm); (case k2 => k_mem); (case k3 => omega); (case k4 => omega); (case k5 => omega); k_whole); intro t')); (k_with "call type:type" => ((with_reducible show wpAny _ _ (call _ [Value.bytes _ _]) _ _ _); refine call_type_of (Tx := "bytes") (typeIs_bytes _ _ _) (by decide +kernel) ?_)); (k_with "call builtin:list.pop" => (k_here; k_dflt (refine' pop0_K ?k1 ?k2 ?k3 ?k4 ?_; (case k1 => k_asm); (case k2 => k_asm); (case k3 => k_upd); (case k4 => omega); k_whole); intro h' F' N'; (try k_sweep))); (k_with "truthy ref" => (k_here; k_dflt (refine' truthyL_K ?k1 ?k2 ?k3 ?_; (case k1 => k_asm); (case k2 => k_mem); (case k3 => omega); k_whole))); (k_with "call ref" => (k_here; (first | (with_reducible show wpAny _ _ (call (Value.ref 501) [Value.ref _]) _ _ _) | (with_reducible show wpAny _ _ (call (Value.ref (nat_lit 501)) [Value.ref _]) _ _ _)); k_dflt (refine' sb_tell ?B ?F ?X ?T ?N ?hk ?hz ?hq ?hb ?hd ?hu ?_; (case B => k_asm); (case F => k_asm); (case X => k_asm); (case T => k_asm); (case N => k_asm); (case hk => rfl); (case hz => first | exact rfl | omega); (case hq => omega); (case hb => omega); (case hd => first | omega | (dsimp only [Ar, Around.deeper]; omega)); (case hu => first | omega | (dsimp only [Ar, Around.deeper]; omega)); k_whole); intro h' t' tq' tv' F' N'; (try k_sweep))); (k_with "call ref" => (k_here; (first | (with_reducible show wpAny _ _ (call (Value.ref 509) [Value.ref _, Value.int _ _, Value.int _ _]) _ _ _) | (with_reducible show wpAny _ _ (call (Value.ref (nat_lit 509)) [Value.ref _, Value.int _ _, Value.int _ _]) _ _ _)); k_dflt (refine' sb_seekEnd ?B ?F ?X ?T ?N ?hk ?hz ?hq ?hb ?hd ?hu ?_; (case B => k_asm); (case F => k_asm); (case X => k_asm); (case T => k_asm); (case N => k_asm); (case hk => rfl); (case hz => first | exact rfl | omega); (case hq => omega); (case hb => omega); (case hd => first | omega | (dsimp only [Ar, Around.deeper]; omega)); (case hu => first | omega | (dsimp only [Ar, Around.deeper]; omega)); k_whole); intro h' t' tq' tv' F' N'; (try k_sweep))); (k_with "call ref" => (k_here; (first | (with_reducible show wpAny _ _ (call (Value.ref 509) [Value.ref _, Value.int _ _]) _ _ _) | (with_reducible show wpAny _ _ (call (Value.ref (nat_lit 509)) [Value.ref _, Value.int _ _]) _ _ _)); k_dflt (refine' sb_seekTo ?B ?F ?X ?T ?N ?hk ?hz ?hq ?hb ?hi ?hd ?hu ?_; (case B => k_asm); (case F => k_asm); (case X => k_asm); (case T => k_asm); (case N => k_asm); (case hk => rfl); (case hz => first | exact rfl | omega); (case hq => omega); (case hb => omega); (case hi => omega); (case hd => first | omega | (dsimp only [Ar, Around.deeper]; omega)); (case hu => first | omega | (dsimp only [Ar, Around.deeper]; omega)); k_whole); intro h' t' tq' tv' F' N'; (try k_sweep))); (k_with "call ref" => (k_here; (first | (with_reducible show wpAny _ _ (call (Value.ref 525) [Value.ref _, Value.int _ _]) _ _ _) | (with_reducible show wpAny _ _ (call (Value.ref (nat_lit 525)) [Value.ref _, Value.int _ _]) _ _ _)); k_dflt (refine' sb_read ?B ?F ?X ?T ?N ?hk ?hz ?hq ?hb ?hi ?hd ?hu ?_; (case B => k_asm); (case F => k_asm); (case X => k_asm); (case T => k_asm); (case N => k_asm); (case hk => rfl); (case hz => first | exact rfl | omega); (case hq => omega); (case hb => omega); (case hi => omega); (case hd => first | omega | (dsimp only [Ar, Around.deeper]; omega)); (case hu => first | omega | (dsimp only [Ar, Around.deeper]; omega)); k_whole); intro h' t' tq' tv' F' N'; (try k_sweep))); (k_with "call ref" => (k_here; (first | (with_reducible show wpAny _ _ (call (Value.ref 555) [Value.ref _]) _ _ _) | (with_reducible show wpAny _ _ (call (Value.ref (nat_lit 555)) [Value.ref _]) _ _ _)); k_dflt (refine' sb_readline ?B ?F ?X ?T ?N ?hk ?hz ?hq ?hb ?hd ?hu ?_; (case B => k_asm); (case F => k_asm); (case X => k_asm); (case T => k_asm); (case N => k_asm); (case hk => rfl); (case hz => first | exact rfl | omega); (case hq => omega); (case hb => omega); (case hd => first | omega | (dsimp only [Ar, Around.deeper]; omega)); (case hu => first | omega | (dsimp only [Ar, Around.deeper]; omega)); k_whole); intro h' t' tq' tv' F' N'; (try k_sweep)))))
theorem rfsN_does (w : World) (p : Program) (loose : List Str) (mean : ExcName → Option Value) (mg mb : Str → Option Value) (k : K4) (sb sd b bd ba pl : Addr) (h1 h2 : Int) (t1 t2 u0 : Tok) (bs : List UInt8) (q : Nat) (t : Tok) (hq : q ≤ bs.length) (hb : bs.length < 400000) (pt : List UInt8) (tp : Tok) (hp : 0 < pt.length) (hp' : pt.length < 1000) (vs : List Value) (hv : vs.length < 400000) (n : Nat) :
    DoesC (Mine.frag.heap_1 w.params) PySem.Challenge.rw_ez0337_01.row.prog w p loose mean mg mb 12 879 [.ref sb] [("timeout", .ref 300)] [(sb, instObj 934 sd), (sd, sbD k (.ref pl) 4 u0 .none b), (b, instObj 601 bd), (bd, bioD h1 h2 t1 t2 ba (q : Int) t), (ba, baObj (bs).toArray), (pl, listOf (.bytes pt.toArray tp :: vs).toArray n)] (fun _ => True) (fun _ v h' => v = .bool true ∧ ∃ z tq bb vv, z = ((q : Nat) : Int) ∧ bb = (bs ++ pt).toArray ∧ vv = (vs).toArray ∧ h'.get? sb = some (instObj 934 sd) ∧ h'.get? sd = some (sbD k (.ref pl) 4 u0 .none b) ∧ h'.get? b = some (instObj 601 bd) ∧ h'.get? bd = some (bioD h1 h2 t1 t2 ba z tq) ∧ h'.get? ba = some (baObj bb) ∧ h'.get? pl = some (listOf vv (n + 1))) := by
  k_fill
  intro dp un gd outer base g A₀ s R B st X T hW hsz hPre hd hu kont
  refine' enterC st X T hW hsz ?ho ?hcd ?hroom ?hbind ?hloc ?_ ?c2 ?c3 ?c4 ?c5
  case ho => k_is
  case hcd => k_is
  case hroom => omega
  case hbind => first | exact BindsTo.of_eq rfl | exact binds_K (X.keeps fun b o e => st b o e) rfl (by k_is) rfl rfl rfl
  case hloc => exact locs rfl
  case c2 => rfl
  case c3 => rfl
  case c4 => rfl
  case c5 => decide
  intro L' h₁ F N hlt
  (try k_lt hlt)
  dsimp only
  have y0 : bs.length < 500000 := by omega
  have y1 : pt.length < 100000 := by omega
  have hN6 := sb_ne6 N
  have z0 : bs.toArray.size = bs.length := List.size_toArray ..
  have z1 : pt.toArray.size = pt.length := List.size_toArray ..
  refine C_consK ?_
  k_steps
  all_goals (try dsimp only)
  refine C_consK ?_
  k_steps
  all_goals (try dsimp only)
  refine C_consK ?_
  k_steps
  all_goals (try dsimp only)
  refine C_consK ?_
  k_steps
  all_goals (try dsimp only)
  refine C_consK ?_
  k_steps
  all_goals (try dsimp only)
  refine C_consK ?_
  k_steps
  all_goals (try dsimp only)
  refine C_cons (C_TryFinally (C_cons (C_While (fun _ s' => s' = _) 0 rfl ?_)))
  intro nn s' hs'
  cases hs'
  k_steps
  refine C_consK ?_
  k_steps
  all_goals (try dsimp only)
  refine C_consK ?_
  k_steps
  all_goals (try dsimp only)
  all_goals (try (exfalso; omega))
  refine C_cons (C_Expr (C_Call ?_))
  k_steps
  refine C_callK (K := Mine.frag.heap_1 w.params) ?kK ?_
  case kK => k_is
  k_steps
  rename Fr g L' _ _ => kF
  rename News g L' _ _ => kN
  (try dsimp only [List.cons_append, List.nil_append])
  refine' sb_write B kF X T kN rfl rfl rfl y0 hp y1 ?hd ?hu ?_
  case hd => show dp + 1 + 6 < recursionLimit; omega
  case hu => show un + 3 + 8 * 6 < cLine; omega
  intro h₄ t₄ tq tv F₄ N₄
  clear kF kN
  (try dsimp only)
  refine C_consK ?_
  k_steps
  all_goals (try dsimp only)
  refine C_consK ?_
  k_steps
  all_goals (try dsimp only)
  refine C_consK ?_
  k_steps
  all_goals (try dsimp only)
  refine C_consK ?_
  k_steps
  all_goals (try dsimp only)
  refine C_consK ?_
  k_steps
  all_goals (try dsimp only)
  refine C_nil ?_
  (try dsimp only)
  rename News g L' _ _ => kN7
  refine kont _ _ _ (Fr.keep (by assumption)) ⟨rfl, _, _, _, _, ?_, ?_, rfl, kN7.get (by k_mem), kN7.get (by k_mem), kN7.get (by k_mem), kN7.get (by k_mem), kN7.get (by k_mem), kN7.get (by k_mem)⟩
  all_goals first | rfl | omega

end Mine
end EzRF
section EzRL
open PySem PySem.W PyProof.Rows PySem.Calls
namespace Mine
set_option maxRecDepth 100000
set_option maxHeartbeats 1000000
local macro_rules | `(tactic| k_in) => `(tactic| first | k_in_fast | exact Frag.In.keeps (by k_asm) (Fr.keep (by k_asm)))
local macro_rules | `(tactic| k_room) => `(tactic| ktr_room)
local macro_rules | `(tactic| k_units) => `(tactic| ktr_units)
local macro_rules | `(tactic| k_ne) => `(tactic| (refine neN ?_; (try dsimp only); (with_reducible rename Ne6 _ _ _ _ _ _ => kNe); first | exact kNe.m1 | exact kNe.s1 | exact kNe.m2 | exact kNe.s2 | exact kNe.m3 | exact kNe.s3 | exact kNe.m4 | exact kNe.s4 | exact kNe.m5 | exact kNe.s5 | exact kNe.m6 | exact kNe.s6 | exact kNe.m7 | exact kNe.s7 | exact kNe.m8 | exact kNe.s8 | exact kNe.m9 | exact kNe.s9 | exact kNe.m10 | exact kNe.s10 | exact kNe.m11 | exact kNe.s11 | exact kNe.m12 | exact kNe.s12 | exact kNe.m13 | exact kNe.s13 | exact kNe.m14 | exact kNe.s14 | exact kNe.m15 | exact kNe.s15 | omega))
local macro_rules | `(tactic| k_fill) => `(tactic| (k_with_none; (k_with "eval Name" => (k_here; k_dflt (first | (refine' nameX_K ?F ?X ?T ?e ?_ ?a ?b ?c; (case F => k_asm); (case X => k_asm); (case T => k_asm); (case e => k_is); (case a => kernel_rfl); (case b => kernel_rfl); (case c => kernel_rfl); k_whole) | (refine' nameX_C ?N ?h ?m ?d ?_ ?a ?b ?c; (case h => rfl); (case N => k_asm); (case m => k_mem); (case d => k_asm); (case a => kernel_rfl); (case b => kernel_rfl); (case c => kernel_rfl); k_whole) | (refine' nameX_L ?F ?v ?_ ?a ?b ?c; (case F => k_asm); (case v => rfl); (case a => kernel_rfl); (case b => kernel_rfl); (case c => kernel_rfl); k_whole) | (refine' nameX_B ?F ?X ?T ?e ?v ?n ?_ ?a ?b ?c; (case F => k_asm); (case X => k_asm); (case T => k_asm); (case e => k_is); (case v => boot_fast); (case n => decide); (case a => kernel_rfl); (case b => kernel_rfl); (case c => kernel_rfl); k_whole)))); (k_with "ite" => (k_closed; first | (refine ite_pos ?h ?_; (case h => k_dflt (decide +kernel))) | (refine ite_neg ?h ?_; (case h => k_dflt (decide +kernel))))); (k_with "call builtin:len" => (k_here; (with_reducible show wpAny _ _ (call (Value.builtin "len") [Value.ref _]) _ _ _); k_dflt (refine' ba_len_K ?k1 ?k2 ?k3 ?_; (case k1 => k_asm); (case k2 => k_mem); (case k3 => omega); k_whole); intro t' k')); (k_with "call type:bytes" => (k_here; (with_reducible show wpAny _ _ (call (Value.type "bytes") [Value.ref _]) _ _ _); k_dflt (refine' ba_bytes_K ?k1 ?k2 ?k3 ?_; (case k1 => k_asm); (case k2 => k_mem); (case k3 => exact Nat.lt_of_le_of_lt (KBc.size_picked_le _ _ _) (by omega)); k_whole); intro t' k')); (k_with "subscriptTail" => (k_here; (with_reducible show wpAny _ _ (subscriptTail _ _ (Value.ref _) (Value.ref _)) _ _ _); k_dflt (refine' ba_slice_K ?k1 ?k2 ?k3 ?k4 ?k5 ?k6 ?_ ?k7 ?k8; (case k1 => k_asm); (case k2 => k_asm); (case k3 => k_mem); (case k4 => constructor); (case k5 => constructor); (case k6 => omega); (case k7 => with_unfolding_all rfl); (case k8 => intro _; with_unfolding_all rfl); k_whole); intro x' h' F' N' l1; (try k_lt l1); (try k_sweep))); (k_with "getMethod ref" => (k_here; (with_reducible show wpAny _ _ (getMethod (Value.ref _) (PySem.Str.ofString "find") _) _ _ _); k_dflt (refine' ba_method_K ?k1 ?k2 ?_; (case k1 => k_asm); (case k2 => k_mem); k_whole))); (k_with "call builtin:bytearray.find" => (k_here; k_dflt (refine' ba_find_K ?k1 ?k2 ?k3 ?k4 ?k5 ?_; (case k1 => k_asm); (case k2 => k_mem); (case k3 => omega); (case k4 => omega); (case k5 => omega); k_whole); intro t')); (k_with "call type:type" => ((with_reducible show wpAny _ _ (call _ [Value.bytes _ _]) _ _ _); refine call_type_of (Tx := "bytes") (typeIs_bytes _ _ _) (by decide +kernel) ?_)); (k_with "call builtin:list.pop" => (k_here; k_dflt (refine' pop0_K ?k1 ?k2 ?k3 ?k4 ?_; (case k1 => k_asm); (case k2 => k_asm); (case k3 => k_upd); (case k4 => omega); k_whole); intro h' F' N'; (try k_sweep))); (k_with "truthy ref" => (k_here; k_dflt (refine' truthyL_K ?k1 ?k2 ?k3 ?_; (case k1 => k_asm); (case k2 => k_mem); (case k3 => omega); k_whole))); (k_with "call ref" => (k_here; (first | (with_reducible show wpAny _ _ (call (Value.ref 501) [Value.ref _]) _ _ _) | (with_reducible show wpAny _ _ (call (Value.ref (nat_lit 501)) [Value.ref _]) _ _ _)); k_dflt (refine' sb_tell ?B ?F ?X ?T ?N ?hk ?hz ?hq ?hb ?hd ?hu ?_; (case B => k_asm); (case F => k_asm); (case X => k_asm); (case T => k_asm); (case N => k_asm); (case hk => rfl); (case hz => first | exact rfl | omega); (case hq => omega); (case hb => omega); (case hd => first | omega | (dsimp only [Ar, Around.deeper]; omega)); (case hu => first | omega | (dsimp only [Ar, Around.deeper]; omega)); k_whole); intro h' t' tq' tv' F' N'; (try k_sweep))); (k_with "call ref" => (k_here; (first | (with_reducible show wpAny _ _ (call (Value.ref 509) [Value.ref _, Value.int _ _, Value.int _ _]) _ _ _) | (with_reducible show wpAny _ _ (call (Value.ref (nat_lit 509)) [Value.ref _, Value.int _ _, Value.int _ _]) _ _ _)); k_dflt (refine' sb_seekEnd ?B ?F ?X ?T ?N ?hk ?hz ?hq ?hb ?hd ?hu ?_; (case B => k_asm); (case F => k_asm); (case X => k_asm); (case T => k_asm); (case N => k_asm); (case hk => rfl); (case hz => first | exact rfl | omega); (case hq => omega); (case hb => omega); (case hd => first | omega | (dsimp only [Ar, Around.deeper]; omega)); (case hu => first | omega | (dsimp only [Ar, Around.deeper]; omega)); k_whole); intro h' t' tq' tv' F' N'; (try k_sweep))); (k_with "call ref" => (k_here; (first | (with_reducible show wpAny _ _ (call (Value.ref 509) [Value.ref _, Value.int _ _]) _ _ _) | (with_reducible show wpAny _ _ (call (Value.ref (nat_lit 509)) [Value.ref _, Value.int _ _]) _ _ _)); k_dflt (refine' sb_seekTo ?B ?F ?X ?T ?N ?hk ?hz ?hq ?hb ?hi ?hd ?hu ?_; (case B => k_asm); (case F => k_asm); (case X => k_asm); (case T => k_asm); (case N => k_asm); (case hk => rfl); (case hz => first | exact rfl | omega); (case hq => omega); (case hb => omega); (case hi => omega); (case hd => first | omega | (dsimp only [Ar, Around.deeper]; omega)); (case hu => first | omega | (dsimp only [Ar, Around.deeper]; omega)); k_whole); intro h' t' tq' tv' F' N'; (try k_sweep))); (k_with "call ref" => (k_here; (first | (with_reducible show wpAny _ _ (call (Value.ref 525) [Value.ref _, Value.int _ _]) _ _ _) | (with_reducible show wpAny _ _ (call (Value.ref (nat_lit 525)) [Value.ref _, Value.int _ _]) _ _ _)); k_dflt (refine' sb_read ?B ?F ?X ?T ?N ?hk ?hz ?hq ?hb ?hi ?hd ?hu ?_; (case B => k_asm); (case F => k_asm); (case X => k_asm); (case T => k_asm); (case N => k_asm); (case hk => rfl); (case hz => first | exact rfl | omega); (case hq => omega); (case hb => omega); (case hi => omega); (case hd => first | omega | (dsimp only [Ar, Around.deeper]; omega)); (case hu => first | omega | (dsimp only [Ar, Around.deeper]; omega)); k_whole); intro h' t' tq' tv' F' N'; (try k_sweep))); (k_with "call ref" => (k_here; (first | (with_reducible show wpAny _ _ (call (Value.ref 555) [Value.ref _]) _ _ _) | (with_reducible show wpAny _ _ (call (Value.ref (nat_lit 555)) [Value.ref _]) _ _ _)); k_dflt (refine' sb_readline ?B ?F ?X ?T ?N ?hk ?hz ?hq ?hb ?hd ?hu ?_; (case B => k_asm); (case F => k_asm); (case X => k_asm); (case T => k_asm); (case N => k_asm); (case hk => rfl); (case hz => first | exact rfl | omega); (case hq => omega); (case hb => omega); (case hd => first | omega | (dsimp only [Ar, Around.deeper]; omega)); (case hu => first | omega | (dsimp only [Ar, Around.deeper]; omega)); k_whole); intro h' t' tq' tv' F' N'; (try k_sweep)))))
theorem rfsL_does (w : World) (p : Program) (loose : List Str) (mean : ExcName → Option Value) (mg mb : Str → Option Value) (k : K4) (sb sd b bd ba pl : Addr) (h1 h2 : Int) (t1 t2 u0 : Tok) (bs : List UInt8) (q : Nat) (t : Tok) (hq : q ≤ bs.length) (ps : List (List UInt8)) (vs : List Value) (hP : PartsV vs ps) (hb : bs.length < 400000) (hfl : ps.flatten.length < 90000) (mm : Nat) (hm0 : 0 < mm) (hm1 : mm ≤ ps.flatten.length) (tl : Tok) (n : Nat) :
    DoesC (Mine.frag.heap_1 w.params) PySem.Challenge.rw_ez0337_01.row.prog w p loose mean mg mb 12 879 [.ref sb] [("length", .int (mm : Int) tl), ("timeout", .ref 300)] [(sb, instObj 934 sd), (sd, sbD k (.ref pl) 4 u0 .none b), (b, instObj 601 bd), (bd, bioD h1 h2 t1 t2 ba (q : Int) t), (ba, baObj (bs).toArray), (pl, listOf (vs).toArray n)] (fun _ => True) (fun _ v h' => v = .bool true ∧ ∃ c ps' vs' n', PartsV vs' ps' ∧ ps.flatten = c ++ ps'.flatten ∧ mm ≤ c.length ∧ ∃ z tq bb vv, z = ((q : Nat) : Int) ∧ bb = (bs ++ c).toArray ∧ vv = (vs').toArray ∧ h'.get? sb = some (instObj 934 sd) ∧ h'.get? sd = some (sbD k (.ref pl) 4 u0 .none b) ∧ h'.get? b = some (instObj 601 bd) ∧ h'.get? bd = some (bioD h1 h2 t1 t2 ba z tq) ∧ h'.get? ba = some (baObj bb) ∧ h'.get? pl = some (listOf vv (n'))) := by
  k_fill
  intro dp un gd outer base g A₀ s R B st X T hW hsz hPre hd hu kont
  refine' enterC st X T hW hsz ?ho ?hcd ?hroom ?hbind ?hloc ?_ ?c2 ?c3 ?c4 ?c5
  case ho => k_is
  case hcd => k_is
  case hroom => omega
  case hbind => first | exact BindsTo.of_eq rfl | exact binds_K (X.keeps fun b o e => st b o e) rfl (by k_is) rfl rfl rfl
  case hloc => exact locs rfl
  case c2 => rfl
  case c3 => rfl
  case c4 => rfl
  case c5 => decide
  intro L' h₁ F N hlt
  (try k_lt hlt)
  dsimp only
  have y0 : bs.length < 400000 := hb
  have hpl := PartsV.len hP
  have hN6 := sb_ne6 N
  have z0 : bs.toArray.size = bs.length := List.size_toArray ..
  refine C_consK ?_
  k_steps
  all_goals (try dsimp only)
  refine C_consK ?_
  k_steps
  all_goals (try dsimp only)
  refine C_consK ?_
  k_steps
  all_goals (try dsimp only)
  refine C_consK ?_
  k_steps
  all_goals (try dsimp only)
  refine C_consK ?_
  k_steps
  all_goals (try dsimp only)
  refine C_consK ?_
  k_steps
  all_goals (try dsimp only)
  rename Fr g L' _ _ => kF
  rename News g L' _ _ => kN
  obtain ⟨m₀, hm₀, kF'⟩ : ∃ m₀, m₀ = _ ∧ Fr g L' _ m₀ := ⟨_, rfl, kF⟩
  refine C_cons (C_TryFinally (C_cons (C_While2 (fun k' s' => ∃ (c : List UInt8) (ps' : List (List UInt8)) (vs' : List Value) (n' : Nat) (h' : Heap) (tk : Nat) (tq tm : Tok) (da dl : Option Value), s' = ⟨h', s.gens, s.drawn, tk, s.os⟩ ∧ PartsV vs' ps' ∧ ps.flatten = c ++ ps'.flatten ∧ c.length < mm ∧ k' = ps'.length ∧ Fr g L' h' (fun y => if y = "marker" then some (.int ((c.length : Nat) : Int) tm) else if y = "data_length" then dl else if y = "data" then da else m₀ y) ∧ News g L' h' [(sb, instObj 934 sd), (sd, sbD k (.ref pl) 4 u0 .none b), (b, instObj 601 bd), (bd, bioD h1 h2 t1 t2 ba ((bs.length + c.length : Nat) : Int) tq), (ba, baObj (bs ++ c).toArray), (pl, listOf (vs').toArray n')]) ps.length ?init ?turn)))
  case init =>
    obtain ⟨tm, htm⟩ : ∃ tm, m₀ "marker" = some (.int 0 tm) := ⟨_, by rw [hm₀]; rfl⟩
    have e := @mem3 "marker" "data_length" "data" m₀
    rw [htm] at e
    have e0 : bs ++ ([] : List UInt8) = bs := List.append_nil bs
    refine ⟨[], ps, vs, n, _, _, _, tm, m₀ "data", m₀ "data_length", rfl, hP, rfl, hm0, rfl, ?_, by rw [e0]; exact kN⟩
    show Fr g L' _ (fun y => if y = "marker" then some (.int 0 tm) else if y = "data_length" then m₀ "data_length" else if y = "data" then m₀ "data" else m₀ y)
    rw [e]; exact kF'
  case turn =>
    intro nn s' hI
    obtain ⟨c, ps', vs', n', h', tk, tq, tm, da, dl, rfl, hP', hfl', hc, rfl, kF1, kN1⟩ := hI
    have hlen : ps.flatten.length = c.length + ps'.flatten.length := by rw [hfl', List.length_append]
    obtain ⟨pt, tp, vs2, ps2, rfl, rfl, hp, hp', hP2⟩ := PartsV.uncons hP' (by omega)
    have z1 : pt.toArray.size = pt.length := List.size_toArray ..
    have hpl2 := PartsV.len hP2
    simp only [List.flatten_cons, List.length_append] at hlen
    clear kF kF' kN
    subst hm₀
    have y2 : (bs ++ c).length = bs.length + c.length := List.length_append
    have z2 : (bs ++ c).toArray.size = (bs ++ c).length := List.size_toArray ..
    have e1 : bs ++ c ++ pt = bs ++ (c ++ pt) := List.append_assoc ..
    have e3 : (c ++ pt).length = c.length + pt.length := List.length_append
    have e2 : (bs ++ c).length + pt.length = bs.length + (c ++ pt).length := by omega
    have e4 : (bs ++ (c ++ pt)).length = bs.length + c.length + pt.length := by rw [List.length_append, e3]; omega
    have e5 : ((c.length : Nat) : Int) + ((pt.toArray.size : Nat) : Int) = (((c ++ pt).length : Nat) : Int) := by rw [z1, e3]; omega
    k_steps
    refine C_consK ?_
    k_steps
    all_goals (try dsimp only)
    refine C_consK ?_
    k_steps
    all_goals (try dsimp only)
    all_goals (try (exfalso; omega))
    refine C_cons (C_Expr (C_Call ?_))
    k_steps
    refine C_callK (K := Mine.frag.heap_1 w.params) ?kK ?_
    case kK => k_is
    k_steps
    rename Fr g L' _ _ => kF
    rename News g L' _ _ => kN
    (try dsimp only [List.cons_append, List.nil_append])
    refine' sb_write B kF X T kN rfl rfl y2.symm (by omega) hp (by omega) ?hd ?hu ?_
    case hd => show dp + 1 + 6 < recursionLimit; omega
    case hu => show un + 3 + 8 * 6 < cLine; omega
    intro h₄ t₄ tq₄ tv₄ F₄ N₄
    clear kF kN
    (try dsimp only)
    refine C_consK ?_
    k_steps
    all_goals (try dsimp only)
    refine C_consK ?_
    k_steps
    all_goals (try dsimp only)
    refine C_consK ?_
    k_steps
    all_goals (try dsimp only)
    all_goals rename Fr g L' _ _ => kF5
    all_goals rename News g L' _ _ => kN5
    all_goals rw [e5] at kF5
    all_goals rw [e1, e2] at kN5
    rotate_left
    refine C_consK ?_
    k_steps
    all_goals (try dsimp only)
    · refine C_consK ?_
      k_steps
      all_goals (try dsimp only)
      refine C_nil ?_
      (try dsimp only)
      rename News g L' _ _ => kN7
      refine kont _ _ _ (Fr.keep (by assumption)) ⟨rfl, c ++ pt, ps2, vs2, n' + 1, hP2, ?_, ?_, _, _, _, _, ?_, ?_, rfl, kN7.get (by k_mem), kN7.get (by k_mem), kN7.get (by k_mem), kN7.get (by k_mem), kN7.get (by k_mem), kN7.get (by k_mem)⟩
      · rw [hfl', List.flatten_cons, List.append_assoc]
      · omega
      all_goals first | rfl | omega
    · refine ⟨ps2.length, Nat.lt_succ_self _, c ++ pt, ps2, vs2, n' + 1, _, _, _, _, _, _, rfl, hP2, ?_, ?_, rfl, Mine.Fr.cast kF5 (over3 _), kN5⟩
      · rw [hfl', List.flatten_cons, List.append_assoc]
      · omega

end Mine
end EzRL
section EzCall2
open PySem PySem.W PyProof.Rows PySem.Calls
namespace Mine
set_option maxRecDepth 100000
set_option maxHeartbeats 1000000
local macro_rules | `(tactic| k_in) => `(tactic| first | k_in_fast | exact Frag.In.keeps (by k_asm) (Fr.keep (by k_asm)))
local macro_rules | `(tactic| k_ne) => `(tactic| (refine neN ?_; (try dsimp only); (with_reducible rename Ne6 _ _ _ _ _ _ => kNe); first | exact kNe.m1 | exact kNe.s1 | exact kNe.m2 | exact kNe.s2 | exact kNe.m3 | exact kNe.s3 | exact kNe.m4 | exact kNe.s4 | exact kNe.m5 | exact kNe.s5 | exact kNe.m6 | exact kNe.s6 | exact kNe.m7 | exact kNe.s7 | exact kNe.m8 | exact kNe.s8 | exact kNe.m9 | exact kNe.s9 | exact kNe.m10 | exact kNe.s10 | exact kNe.m11 | exact kNe.s11 | exact kNe.m12 | exact kNe.s12 | exact kNe.m13 | exact kNe.s13 | exact kNe.m14 | exact kNe.s14 | exact kNe.m15 | exact kNe.s15 | omega))
section
variable {w : World} {p : Program} {loose : List PySem.Str} {mean : ExcName → Option Value} {mg mb : PySem.Str → Option Value}
variable {A₀ : Around} {base g : Heap} {outer : List Env} {s : Shared} {L a : Addr} {m : PySem.Str → Option Value} {cn : PySem.Str} {cs : Scope} {ccd : Value} {cl : List (PySem.Str × Addr)} {dp un : Nat} {gd : Option (List Code)}
variable {pt : List UInt8} {tp : Tok} {k : K4} {sb sd b bd ba pl : Addr} {h1 h2 : Int} {t1 t2 u0 t : Tok} {bs : List UInt8} {vs : List Value} {n : Nat} {z : Int}
theorem sb_rfsN {Q : Value → Shared → Prop} (B : Below A₀ base outer g) (F : Fr g L s.heap m) (X : (Mine.frag.heap_1 w.params).In g) (T : Top p loose mean mg mb g)
    (N : News g L s.heap [(sb, instObj 934 sd), (sd, sbD k (.ref pl) 4 u0 .none b), (b, instObj 601 bd), (bd, bioD h1 h2 t1 t2 ba z t), (ba, baObj (bs).toArray), (pl, listOf (.bytes pt.toArray tp :: vs).toArray n)]) (hk : cs.kind = .function) {q : Nat} (hz : z = ((q : Nat) : Int)) (hq : q ≤ bs.length) (hb : bs.length < 400000) (hp : 0 < pt.length) (hp' : pt.length < 1000) (hv : vs.length < 400000) (hd : dp + 12 < recursionLimit) (hu : un + 8 * 12 < cLine)
    (h : ∀ h' t' tq, Fr g L h' m → News g L h' [(sb, instObj 934 sd), (sd, sbD k (.ref pl) 4 u0 .none b), (b, instObj 601 bd), (bd, bioD h1 h2 t1 t2 ba ((q : Nat) : Int) tq), (ba, baObj (bs ++ pt).toArray), (pl, listOf (vs).toArray (n + 1))] → Q (.bool true) { s with heap := h', toks := t' }) :
    wpC (model PySem.Challenge.rw_ez0337_01.row.prog w) (Ar dp un gd (envX cn cs L a ccd cl :: outer)) (call (.ref 879) [.ref sb] [("timeout", .ref 300)]) Q s := by
  subst hz
  (try subst hzi)
  have hN6 := sb_ne6 N
  refine useC (rfsN_does w p loose mean mg mb k sb sd b bd ba pl h1 h2 t1 t2 u0 bs q t hq hb pt tp hp hp' vs hv n) B F X N T hk (keepL := []) (fun _ q => q) (fun _ q => nomatch q) (fun _ _ _ => trivial) hd hu ?_
  intro v₄ h₄ t₄ g₄ F₄ N₄ st₄ kp₄ st₄' post₄ bld
  obtain ⟨rfl, z', t', bb, vv, rfl, rfl, rfl, e1, e2, e3, e4, e5, e6⟩ := post₄
  exact h h₄ t₄ _ F₄ (bld _ (all6 ⟨e1, .inl (by k_mem)⟩ ⟨e2, .inl (by k_mem)⟩ ⟨e3, .inl (by k_mem)⟩ ⟨e4, .inl (by k_mem)⟩ ⟨e5, .inl (by k_mem)⟩ ⟨e6, .inl (by k_mem)⟩))
theorem sb_rfsL {Q : Value → Shared → Prop} (B : Below A₀ base outer g) (F : Fr g L s.heap m) (X : (Mine.frag.heap_1 w.params).In g) (T : Top p loose mean mg mb g)
    (N : News g L s.heap [(sb, instObj 934 sd), (sd, sbD k (.ref pl) 4 u0 .none b), (b, instObj 601 bd), (bd, bioD h1 h2 t1 t2 ba z t), (ba, baObj (bs).toArray), (pl, listOf (vs).toArray n)]) (hk : cs.kind = .function) {q : Nat} (hz : z = ((q : Nat) : Int)) (hq : q ≤ bs.length) {ps : List (List UInt8)} (hP : PartsV vs ps) (hb : bs.length < 400000) (hfl : ps.flatten.length < 90000) {mm : Nat} {zi : Int} (hzi : zi = ((mm : Nat) : Int)) (hm0 : 0 < mm) (hm1 : mm ≤ ps.flatten.length) {tl : Tok} (hd : dp + 12 < recursionLimit) (hu : un + 8 * 12 < cLine)
    (h : ∀ h' t' tq c ps' vs' n', Fr g L h' m → News g L h' [(sb, instObj 934 sd), (sd, sbD k (.ref pl) 4 u0 .none b), (b, instObj 601 bd), (bd, bioD h1 h2 t1 t2 ba ((q : Nat) : Int) tq), (ba, baObj (bs ++ c).toArray), (pl, listOf (vs').toArray n')] → PartsV vs' ps' → ps.flatten = c ++ ps'.flatten → mm ≤ c.length → Q (.bool true) { s with heap := h', toks := t' }) :
    wpC (model PySem.Challenge.rw_ez0337_01.row.prog w) (Ar dp un gd (envX cn cs L a ccd cl :: outer)) (call (.ref 879) [.ref sb] [("length", .int zi tl), ("timeout", .ref 300)]) Q s := by
  subst hz
  (try subst hzi)
  have hN6 := sb_ne6 N
  refine useC (rfsL_does w p loose mean mg mb k sb sd b bd ba pl h1 h2 t1 t2 u0 bs q t hq ps vs hP hb hfl mm hm0 hm1 tl n) B F X N T hk (keepL := []) (fun _ q => q) (fun _ q => nomatch q) (fun _ _ _ => trivial) hd hu ?_
  intro v₄ h₄ t₄ g₄ F₄ N₄ st₄ kp₄ st₄' post₄ bld
  obtain ⟨rfl, c, ps', vs', n', g1, g2, g3, z', t', bb, vv, rfl, rfl, rfl, e1, e2, e3, e4, e5, e6⟩ := post₄
  exact h h₄ t₄ _ _ _ _ _ F₄ (bld _ (all6 ⟨e1, .inl (by k_mem)⟩ ⟨e2, .inl (by k_mem)⟩ ⟨e3, .inl (by k_mem)⟩ ⟨e4, .inl (by k_mem)⟩ ⟨e5, .inl (by k_mem)⟩ ⟨e6, .inl (by k_mem)⟩)) g1 g2 g3
theorem sb_readZ {Q E : Value → Shared → Prop} (B : Below A₀ base outer g) (F : Fr g L s.heap m) (X : (Mine.frag.heap_1 w.params).In g) (T : Top p loose mean mg mb g)
    (N : News g L s.heap [(sb, instObj 934 sd), (sd, sbD k (.ref pl) 4 u0 .none b), (b, instObj 601 bd), (bd, bioD h1 h2 t1 t2 ba z t), (ba, baObj (bs).toArray), (pl, listOf (vs).toArray n)]) (hk : cs.kind = .function) {q : Nat} (hz : z = ((q : Nat) : Int)) (hq : q ≤ bs.length) (hb : bs.length < 1000000) {zi : Int} {u : Tok} (h0 : 0 ≤ zi) (hi : zi < 1000000) (hd : dp + 5 < recursionLimit) (hu : un + 8 * 5 < cLine)
    (h : ∀ h' t' tq tv, Fr g L h' m → News g L h' [(sb, instObj 934 sd), (sd, sbD k (.ref pl) 4 u0 .none b), (b, instObj 601 bd), (bd, bioD h1 h2 t1 t2 ba ((q + ((bs.drop q).take zi.toNat).length : Nat) : Int) tq), (ba, baObj (bs).toArray), (pl, listOf (vs).toArray n)] → Q (.bytes ((bs.drop q).take zi.toNat).toArray tv) { s with heap := h', toks := t' }) :
    wpAny (model PySem.Challenge.rw_ez0337_01.row.prog w) (Ar dp un gd (envX cn cs L a ccd cl :: outer)) (call (.ref 525) [.ref b, .int zi u]) Q E s := by
  obtain ⟨i, rfl⟩ := Int.eq_ofNat_of_zero_le h0
  exact sb_read B F X T N hk hz hq hb (by omega) hd hu h
theorem sb_seekToZ {Q E : Value → Shared → Prop} (B : Below A₀ base outer g) (F : Fr g L s.heap m) (X : (Mine.frag.heap_1 w.params).In g) (T : Top p loose mean mg mb g)
    (N : News g L s.heap [(sb, instObj 934 sd), (sd, sbD k (.ref pl) 4 u0 .none b), (b, instObj 601 bd), (bd, bioD h1 h2 t1 t2 ba z t), (ba, baObj (bs).toArray), (pl, listOf (vs).toArray n)]) (hk : cs.kind = .function) {q : Nat} (hz : z = ((q : Nat) : Int)) (hq : q ≤ bs.length) (hb : bs.length < 1000000) {zi : Int} {u : Tok} (h0 : 0 ≤ zi) (hi : zi < 1000000) (hd : dp + 5 < recursionLimit) (hu : un + 8 * 5 < cLine)
    (h : ∀ h' t' tq tv, Fr g L h' m → News g L h' [(sb, instObj 934 sd), (sd, sbD k (.ref pl) 4 u0 .none b), (b, instObj 601 bd), (bd, bioD h1 h2 t1 t2 ba ((zi.toNat : Nat) : Int) tq), (ba, baObj (bs).toArray), (pl, listOf (vs).toArray n)] → Q (.int ((zi.toNat : Nat) : Int) tv) { s with heap := h', toks := t' }) :
    wpAny (model PySem.Challenge.rw_ez0337_01.row.prog w) (Ar dp un gd (envX cn cs L a ccd cl :: outer)) (call (.ref 509) [.ref b, .int zi u]) Q E s := by
  obtain ⟨i, rfl⟩ := Int.eq_ofNat_of_zero_le h0
  exact sb_seekTo B F X T N hk hz hq hb (by omega) hd hu h
end
end Mine
end EzCall2
section EzRd
open PySem PySem.W PyProof.Rows PySem.Calls
namespace Mine
set_option maxRecDepth 100000
set_option maxHeartbeats 1000000
local macro_rules | `(tactic| k_in) => `(tactic| first | k_in_fast | exact Frag.In.keeps (by k_asm) (Fr.keep (by k_asm)))
local macro_rules | `(tactic| k_room) => `(tactic| ktr_room)
local macro_rules | `(tactic| k_units) => `(tactic| ktr_units)
local macro_rules | `(tactic| k_ne) => `(tactic| (refine neN ?_; (try dsimp only); (with_reducible rename Ne6 _ _ _ _ _ _ => kNe); first | exact kNe.m1 | exact kNe.s1 | exact kNe.m2 | exact kNe.s2 | exact kNe.m3 | exact kNe.s3 | exact kNe.m4 | exact kNe.s4 | exact kNe.m5 | exact kNe.s5 | exact kNe.m6 | exact kNe.s6 | exact kNe.m7 | exact kNe.s7 | exact kNe.m8 | exact kNe.s8 | exact kNe.m9 | exact kNe.s9 | exact kNe.m10 | exact kNe.s10 | exact kNe.m11 | exact kNe.s11 | exact kNe.m12 | exact kNe.s12 | exact kNe.m13 | exact kNe.s13 | exact kNe.m14 | exact kNe.s14 | exact kNe.m15 | exact kNe.s15 | omega))
local macro_rules | `(tactic| k_fill) => `(tactic| (k_with_none; (k_with "eval Name" => (k_here; k_dflt (first | (refine' nameX_K ?F ?X ?T ?e ?_ ?a ?b ?c; (case F => k_asm); (case X => k_asm); (case T => k_asm); (case e => k_is); (case a => kernel_rfl); (case b => kernel_rfl); (case c => kernel_rfl); k_whole) | (refine' nameX_C ?N ?h ?m ?d ?_ ?a ?b ?c; (case h => rfl); (case N => k_asm); (case m => k_mem); (case d => k_asm); (case a => kernel_rfl); (case b => kernel_rfl); (case c => kernel_rfl); k_whole) | (refine' nameX_L ?F ?v ?_ ?a ?b ?c; (case F => k_asm); (case v => rfl); (case a => kernel_rfl); (case b => kernel_rfl); (case c => kernel_rfl); k_whole) | (refine' nameX_B ?F ?X ?T ?e ?v ?n ?_ ?a ?b ?c; (case F => k_asm); (case X => k_asm); (case T => k_asm); (case e => k_is); (case v => boot_fast); (case n => decide); (case a => kernel_rfl); (case b => kernel_rfl); (case c => kernel_rfl); k_whole)))); (k_with "ite" => (k_closed; first | (refine ite_pos ?h ?_; (case h => k_dflt (decide +kernel))) | (refine ite_neg ?h ?_; (case h => k_dflt (decide +kernel))))); (k_with "call builtin:len" => (k_here; (with_reducible show wpAny _ _ (call (Value.builtin "len") [Value.ref _]) _ _ _); k_dflt (refine' ba_len_K ?k1 ?k2 ?k3 ?_; (case k1 => k_asm); (case k2 => k_mem); (case k3 => omega); k_whole); intro t' k')); (k_with "call type:bytes" => (k_here; (with_reducible show wpAny _ _ (call (Value.type "bytes") [Value.ref _]) _ _ _); k_dflt (refine' ba_bytes_K ?k1 ?k2 ?k3 ?_; (case k1 => k_asm); (case k2 => k_mem); (case k3 => exact Nat.lt_of_le_of_lt (KBc.size_picked_le _ _ _) (by omega)); k_whole); intro t' k')); (k_with "subscriptTail" => (k_here; (with_reducible show wpAny _ _ (subscriptTail _ _ (Value.ref _) (Value.ref _)) _ _ _); k_dflt (refine' ba_slice_K ?k1 ?k2 ?k3 ?k4 ?k5 ?k6 ?_ ?k7 ?k8; (case k1 => k_asm); (case k2 => k_asm); (case k3 => k_mem); (case k4 => constructor); (case k5 => constructor); (case k6 => omega); (case k7 => with_unfolding_all rfl); (case k8 => intro _; with_unfolding_all rfl); k_whole); intro x' h' F' N' l1; (try k_lt l1); (try k_sweep))); (k_with "getMethod ref" => (k_here; (with_reducible show wpAny _ _ (getMethod (Value.ref _) (PySem.Str.ofString "find") _) _ _ _); k_dflt (refine' ba_method_K ?k1 ?k2 ?_; (case k1 => k_asm); (case k2 => k_mem); k_whole))); (k_with "call builtin:bytearray.find" => (k_here; k_dflt (refine' ba_find_K ?k1 ?k2 ?k3 ?k4 ?k5 ?_; (case k1 => k_asm); (case k2 => k_mem); (case k3 => omega); (case k4 => omega); (case k5 => omega); k_whole); intro t')); (k_with "call type:type" => ((with_reducible show wpAny _ _ (call _ [Value.bytes _ _]) _ _ _); refine call_type_of (Tx := "bytes") (typeIs_bytes _ _ _) (by decide +kernel) ?_)); (k_with "call builtin:list.pop" => (k_here; k_dflt (refine' pop0_K ?k1 ?k2 ?k3 ?k4 ?_; (case k1 => k_asm); (case k2 => k_asm); (case k3 => k_upd); (case k4 => omega); k_whole); intro h' F' N'; (try k_sweep))); (k_with "truthy ref" => (k_here; k_dflt (refine' truthyL_K ?k1 ?k2 ?k3 ?_; (case k1 => k_asm); (case k2 => k_mem); (case k3 => omega); k_whole))); (k_with "call ref" => (k_here; (first | (with_reducible show wpAny _ _ (call (Value.ref 501) _) _ _ _) | (with_reducible show wpAny _ _ (call (Value.ref (nat_lit 501)) _) _ _ _)); k_dflt (refine' sb_tell ?B ?F ?X ?T ?N ?hk ?hz ?hq ?hb ?hd ?hu ?_; (case B => k_asm); (case F => k_asm); (case X => k_asm); (case T => k_asm); (case N => k_asm); (case hk => rfl); (case hz => first | exact rfl | omega); (case hq => omega); (case hb => omega); (case hd => first | omega | (dsimp only [Ar, Around.deeper]; omega)); (case hu => first | omega | (dsimp only [Ar, Around.deeper]; omega)); k_whole); intro h' t' tq' tv' F' N'; (try k_sweep))); (k_with "call ref" => (k_here; (first | (with_reducible show wpAny _ _ (call (Value.ref 509) _) _ _ _) | (with_reducible show wpAny _ _ (call (Value.ref (nat_lit 509)) _) _ _ _)); k_dflt (refine' sb_seekEnd ?B ?F ?X ?T ?N ?hk ?hz ?hq ?hb ?hd ?hu ?_; (case B => k_asm); (case F => k_asm); (case X => k_asm); (case T => k_asm); (case N => k_asm); (case hk => rfl); (case hz => first | exact rfl | omega); (case hq => omega); (case hb => omega); (case hd => first | omega | (dsimp only [Ar, Around.deeper]; omega)); (case hu => first | omega | (dsimp only [Ar, Around.deeper]; omega)); k_whole); intro h' t' tq' tv' F' N'; (try k_sweep))); (k_with "call ref" => (k_here; (first | (with_reducible show wpAny _ _ (call (Value.ref 509) _) _ _ _) | (with_reducible show wpAny _ _ (call (Value.ref (nat_lit 509)) _) _ _ _)); k_dflt (refine' sb_seekTo ?B ?F ?X ?T ?N ?hk ?hz ?hq ?hb ?hi ?hd ?hu ?_; (case B => k_asm); (case F => k_asm); (case X => k_asm); (case T => k_asm); (case N => k_asm); (case hk => rfl); (case hz => first | exact rfl | omega); (case hq => omega); (case hb => omega); (case hi => omega); (case hd => first | omega | (dsimp only [Ar, Around.deeper]; omega)); (case hu => first | omega | (dsimp only [Ar, Around.deeper]; omega)); k_whole); intro h' t' tq' tv' F' N'; (try k_sweep))); (k_with "call ref" => (k_here; (first | (with_reducible show wpAny _ _ (call (Value.ref 525) _) _ _ _) | (with_reducible show wpAny _ _ (call (Value.ref (nat_lit 525)) _) _ _ _)); k_dflt (refine' sb_read ?B ?F ?X ?T ?N ?hk ?hz ?hq ?hb ?hi ?hd ?hu ?_; (case B => k_asm); (case F => k_asm); (case X => k_asm); (case T => k_asm); (case N => k_asm); (case hk => rfl); (case hz => first | exact rfl | omega); (case hq => omega); (case hb => omega); (case hi => omega); (case hd => first | omega | (dsimp only [Ar, Around.deeper]; omega)); (case hu => first | omega | (dsimp only [Ar, Around.deeper]; omega)); k_whole); intro h' t' tq' tv' F' N'; (try k_sweep))); (k_with "call ref" => (k_here; (first | (with_reducible show wpAny _ _ (call (Value.ref 555) _) _ _ _) | (with_reducible show wpAny _ _ (call (Value.ref (nat_lit 555)) _) _ _ _)); k_dflt (refine' sb_readline ?B ?F ?X ?T ?N ?hk ?hz ?hq ?hb ?hd ?hu ?_; (case B => k_asm); (case F => k_asm); (case X => k_asm); (case T => k_asm); (case N => k_asm); (case hk => rfl); (case hz => first | exact rfl | omega); (case hq => omega); (case hb => omega); (case hd => first | omega | (dsimp only [Ar, Around.deeper]; omega)); (case hu => first | omega | (dsimp only [Ar, Around.deeper]; omega)); k_whole); intro h' t' tq' tv' F' N'; (try k_sweep))); (k_with "getMethod bytes" => (k_here; (with_reducible refine by_ends_method ?_))); (k_with "call builtin:bytes.endswith" => (k_here; refine by_ends ?_)); (k_with "binaryOp Add bytes bytes" => (k_here; (with_reducible show wpAny _ _ (binaryOp Operator.Add (Value.bytes _ _) (Value.bytes _ _)) _ _ _); (refine by_add (by first | omega | (simp only [List.length_append]; omega)) ?_); intro _ _)); (k_with "inplaceOp Add bytes bytes" => (k_here; (refine by_iadd (by first | omega | (simp only [List.length_append]; omega)) ?_); intro _ _)); (k_with "subscriptTail" => (k_here; (with_reducible show wpAny _ _ (subscriptTail _ _ (Value.bytes _ _) (Value.ref _)) _ _ _); k_dflt (refine' by_slice (s := ⟨_, _, _, _, _⟩) ?k1 ?k2 ?k3 ?k4 ?k5 ?_ ?k6 ?k7; (case k1 => k_asm); (case k2 => k_asm); (case k3 => constructor); (case k4 => constructor); (case k5 => first | omega | (simp only [List.length_append, List.length_cons, List.length_nil]; omega)); (case k6 => with_unfolding_all rfl); (case k7 => intro _; with_unfolding_all rfl); k_whole); intro h' t' tk' F' N'; (try k_sweep))); (k_with "call builtin:len" => (k_here; (with_reducible show wpAny _ _ (call (Value.builtin "len") [Value.bytes (List.toArray _) _]) _ _ _); (refine by_len (by first | omega | (simp only [List.length_append]; omega)) ?_); intro _ _))))
theorem sbreadline_does (w : World) (p : Program) (loose : List Str) (mean : ExcName → Option Value) (mg mb : Str → Option Value) (k : K4) (sb sd b bd ba pl : Addr) (h1 h2 : Int) (t1 t2 u0 : Tok) (bs : List UInt8) (q : Nat) (t : Tok) (ps : List (List UInt8)) (vs : List Value) (n : Nat) (line R' : List UInt8) (hl : (10 : UInt8) ∉ line) (hll : line.length < 80000) (S : Strm bs q vs ps (line ++ 13 :: 10 :: R')) :
    DoesC (Mine.frag.heap_1 w.params) PySem.Challenge.rw_ez0337_01.row.prog w p loose mean mg mb 14 903 [.ref sb] [("timeout", .ref 300)] [(sb, instObj 934 sd), (sd, sbD k (.ref pl) 4 u0 .none b), (b, instObj 601 bd), (bd, bioD h1 h2 t1 t2 ba (q : Int) t), (ba, baObj (bs).toArray), (pl, listOf (vs).toArray n)] (fun _ => True) (fun _ v h' => (∃ tv bb, bb = line.toArray ∧ v = .bytes bb tv) ∧ ∃ bs' q' vs' ps' n', Strm bs' q' vs' ps' (R') ∧ ∃ z tq bb vv, z = ((q' : Nat) : Int) ∧ bb = (bs').toArray ∧ vv = (vs').toArray ∧ h'.get? sb = some (instObj 934 sd) ∧ h'.get? sd = some (sbD k (.ref pl) 4 u0 .none b) ∧ h'.get? b = some (instObj 601 bd) ∧ h'.get? bd = some (bioD h1 h2 t1 t2 ba z tq) ∧ h'.get? ba = some (baObj bb) ∧ h'.get? pl = some (listOf vv (n'))) := by
  k_fill
  intro dp un gd outer base g A₀ s R B st X T hW hsz hPre hd hu kont
  refine' enterC st X T hW hsz ?ho ?hcd ?hroom ?hbind ?hloc ?_ ?c2 ?c3 ?c4 ?c5
  case ho => k_is
  case hcd => k_is
  case hroom => omega
  case hbind => first | exact BindsTo.of_eq rfl | exact binds_K (X.keeps fun b o e => st b o e) rfl (by k_is) rfl rfl rfl
  case hloc => exact locs rfl
  case c2 => rfl
  case c3 => rfl
  case c4 => rfl
  case c5 => decide
  intro L' h₁ F N hlt
  (try k_lt hlt)
  dsimp only
  obtain ⟨hq, hP, hR, hT⟩ := id S
  have hpl := PartsV.len hP
  have hN6 := sb_ne6 N
  have hl1 := lineOf_le (bs.drop q)
  rw [List.length_drop] at hl1
  refine C_consK ?_
  k_steps
  all_goals (try dsimp only)
  refine C_consK ?_
  k_steps
  all_goals (try dsimp only)
  rename Fr g L' _ _ => kF
  rename News g L' _ _ => kN
  obtain ⟨m₀, hm₀, kF'⟩ : ∃ m₀, m₀ = _ ∧ Fr g L' _ m₀ := ⟨_, rfl, kF⟩
  refine C_cons (C_While2 (fun k' s' => ∃ (D bs' : List UInt8) (q' : Nat) (ps' : List (List UInt8)) (vs' : List Value) (n' : Nat) (h' : Heap) (tk : Nat) (tq td : Tok), s' = ⟨h', s.gens, s.drawn, tk, s.os⟩ ∧ Mid line R' D bs' q' vs' ps' ∧ k' = ps'.length ∧ D.length < 90000 ∧ Fr g L' h' (fun y => if y = "data" then some (.bytes D.toArray td) else m₀ y) ∧ News g L' h' [(sb, instObj 934 sd), (sd, sbD k (.ref pl) 4 u0 .none b), (b, instObj 601 bd), (bd, bioD h1 h2 t1 t2 ba ((q' : Nat) : Int) tq), (ba, baObj (bs').toArray), (pl, listOf (vs').toArray n')]) ps.length ?init ?turn)
  case init =>
    obtain ⟨td, htd⟩ : ∃ td, m₀ "data" = some (.bytes (lineOf (bs.drop q)).toArray td) := ⟨_, by rw [hm₀]; rfl⟩
    have e := @mem1 "data" m₀
    rw [htd] at e
    refine ⟨lineOf (bs.drop q), bs, _, ps, vs, n, _, _, _, td, rfl, mid_first hl S, rfl, by omega, ?_, kN⟩
    rw [e]; exact kF'
  case turn =>
    intro nn s' hI
    obtain ⟨D, bs', q', ps', vs', n', h', tk, tq, td, rfl, hM, rfl, hD, kF1, kN1⟩ := hI
    clear kF kF' kN
    subst hm₀
    k_steps
    · rename_i hE
      obtain ⟨rfl, S2⟩ := mid_end hM hE
      refine C_nil ?_
      (try dsimp only)
      refine C_consK ?_
      k_steps
      all_goals (try dsimp only)
      rename News g L' _ _ => kN7
      rw [cut_m2]
      refine kont _ _ _ (Fr.keep (by assumption)) ⟨⟨_, _, rfl, rfl⟩, bs', q', vs', ps', n', S2, _, _, _, _, rfl, rfl, rfl, kN7.get (by k_mem), kN7.get (by k_mem), kN7.get (by k_mem), kN7.get (by k_mem), kN7.get (by k_mem), kN7.get (by k_mem)⟩
    · rename_i hE
      obtain ⟨rfl, w1, w2, hP2, hDl, hgo⟩ := mid_go hl hM hE
      obtain ⟨pt, tp, vs2, ps2, rfl, rfl, hp, hp', hP3⟩ := PartsV.uncons hP2 w1
      have hgo := hgo pt vs2 ps2 tp rfl rfl hP3
      have hpl3 := PartsV.len hP3
      simp only [List.flatten_cons, List.length_append] at w2
      refine C_cons (C_Expr (C_Call ?_))
      k_steps
      refine C_callKW0 (K := Mine.frag.heap_1 w.params) ?kK ?kA ?_
      case kK => k_is
      case kA => rfl
      k_steps
      rename Fr g L' _ _ => kF
      rename News g L' _ _ => kN
      (try dsimp only [List.cons_append, List.nil_append])
      refine' sb_rfsN B kF X T kN rfl rfl (Nat.le_refl _) (by omega) hp hp' (by omega) ?hd ?hu ?_
      case hd => show dp + 1 + 12 < recursionLimit; omega
      case hu => show un + 3 + 8 * 12 < cLine; omega
      intro h₄ t₄ tq₄ F₄ N₄
      clear kF kN
      (try dsimp only)
      have y2 : (bs' ++ pt).length = bs'.length + pt.length := List.length_append
      have hl2 := lineOf_le (List.drop bs'.length (bs' ++ pt))
      rw [List.length_drop] at hl2
      refine C_consK ?_
      k_steps
      all_goals (try dsimp only)
      all_goals rename Fr g L' _ _ => kF5
      all_goals rename News g L' _ _ => kN5
      refine C_nil ?_
      (try dsimp only)
      refine ⟨ps2.length, Nat.lt_succ_self _, _, bs' ++ pt, _, ps2, vs2, _, _, _, _, _, rfl, hgo, rfl, ?_, Mine.Fr.cast kF5 (over1 _), kN5⟩
      rw [List.length_append]; omega

end Mine
end EzRd
section EzLn2
open PySem PySem.W PyProof.Rows PySem.Calls
set_option maxRecDepth 100000
namespace Mine
theorem tk2 (pay R : List UInt8) : (pay ++ 13 :: 10 :: R).take (pay.length + 2) = pay ++ [13, 10] := by
  rw [List.take_append, List.take_of_length_le (by omega)]
  simp
theorem dr2 (pay R : List UInt8) : (pay ++ 13 :: 10 :: R).drop (pay.length + 2) = R := by
  rw [List.drop_append, List.drop_of_length_le (by omega)]
  simp
theorem rd_whole {bs pay R : List UInt8} {q : Nat} {vs : List Value} {ps : List (List UInt8)} (S : Strm bs q vs ps (pay ++ 13 :: 10 :: R))
    (h : ((bs.drop q).take (pay.length + 2)).length = pay.length + 2) : (bs.drop q).take (pay.length + 2) = pay ++ [13, 10] ∧ Strm bs (q + (pay.length + 2)) vs ps R := by
  obtain ⟨hq, hP, hR, hT⟩ := S
  rw [List.length_take] at h
  have hle : pay.length + 2 ≤ (bs.drop q).length := by omega
  have e1 := congrArg (List.take (pay.length + 2)) hR
  have e2 := congrArg (List.drop (pay.length + 2)) hR
  rw [tk2, List.take_append_of_le_length hle] at e1
  rw [dr2, List.drop_append_of_le_length hle, List.drop_drop] at e2
  rw [List.length_drop] at hle
  exact ⟨e1, by omega, hP, e2, hT⟩
theorem rd_part {bs pay R : List UInt8} {q : Nat} {vs : List Value} {ps : List (List UInt8)} (S : Strm bs q vs ps (pay ++ 13 :: 10 :: R)) {mm : Nat}
    (hm : mm + ((bs.drop q).take (pay.length + 2)).length = pay.length + 2) (h0 : 0 < mm) :
    q + ((bs.drop q).take (pay.length + 2)).length = bs.length ∧ mm ≤ ps.flatten.length ∧ ∀ c ps' vs', PartsV vs' ps' → ps.flatten = c ++ ps'.flatten → mm ≤ c.length →
      (bs.drop q).take (pay.length + 2) ++ ((bs ++ c).drop (q + ((bs.drop q).take (pay.length + 2)).length)).take mm = pay ++ [13, 10] ∧ (((bs ++ c).drop (q + ((bs.drop q).take (pay.length + 2)).length)).take mm).length = mm ∧
      Strm (bs ++ c) (q + ((bs.drop q).take (pay.length + 2)).length + mm) vs' ps' R := by
  obtain ⟨hq, hP, hR, hT⟩ := S
  have hlt : (bs.drop q).length < pay.length + 2 := by
    rw [List.length_take] at hm; omega
  have e0 : (bs.drop q).take (pay.length + 2) = bs.drop q := List.take_of_length_le (by omega)
  rw [e0] at hm ⊢
  have e1 : q + (bs.drop q).length = bs.length := by rw [List.length_drop]; omega
  rw [e1]
  have hlen := congrArg List.length hR
  simp only [List.length_append, List.length_cons] at hlen
  refine ⟨rfl, by omega, fun c ps' vs' hP' hc hmc => ?_⟩
  have e2 : (bs ++ c).drop bs.length = c := by simp
  rw [e2]
  rw [hc] at hR
  have t1 := congrArg (List.take (pay.length + 2)) hR
  have t2 := congrArg (List.drop (pay.length + 2)) hR
  rw [tk2, List.take_append, List.take_of_length_le (by omega)] at t1
  rw [dr2, List.drop_append, List.drop_of_length_le (by omega)] at t2
  have e3 : pay.length + 2 - (bs.drop q).length = mm := by omega
  rw [e3, List.take_append_of_le_length hmc] at t1
  rw [e3, List.drop_append_of_le_length hmc, List.nil_append] at t2
  refine ⟨t1, by rw [List.length_take]; omega, by simp; omega, hP', ?_, ?_⟩
  · have e4 : (bs ++ c).drop (bs.length + mm) = c.drop mm := by rw [List.drop_append]; simp
    rw [e4]; exact t2
  · have := congrArg List.length hc
    simp only [List.length_append] at this ⊢
    omega
end Mine
end EzLn2
section EzRn
open PySem PySem.W PyProof.Rows PySem.Calls
namespace Mine
set_option maxRecDepth 100000
set_option maxHeartbeats 1000000
local macro_rules | `(tactic| k_in) => `(tactic| first | k_in_fast | exact Frag.In.keeps (by k_asm) (Fr.keep (by k_asm)))
local macro_rules | `(tactic| k_room) => `(tactic| ktr_room)
local macro_rules | `(tactic| k_units) => `(tactic| ktr_units)
local macro_rules | `(tactic| k_ne) => `(tactic| (refine neN ?_; (try dsimp only); (with_reducible rename Ne6 _ _ _ _ _ _ => kNe); first | exact kNe.m1 | exact kNe.s1 | exact kNe.m2 | exact kNe.s2 | exact kNe.m3 | exact kNe.s3 | exact kNe.m4 | exact kNe.s4 | exact kNe.m5 | exact kNe.s5 | exact kNe.m6 | exact kNe.s6 | exact kNe.m7 | exact kNe.s7 | exact kNe.m8 | exact kNe.s8 | exact kNe.m9 | exact kNe.s9 | exact kNe.m10 | exact kNe.s10 | exact kNe.m11 | exact kNe.s11 | exact kNe.m12 | exact kNe.s12 | exact kNe.m13 | exact kNe.s13 | exact kNe.m14 | exact kNe.s14 | exact kNe.m15 | exact kNe.s15 | omega))
local macro_rules | `(tactic| k_fill) => `(tactic| (k_with_none; (k_with "eval Name" => (k_here; k_dflt (first | (refine' nameX_K ?F ?X ?T ?e ?_ ?a ?b ?c; (case F => k_asm); (case X => k_asm); (case T => k_asm); (case e => k_is); (case a => kernel_rfl); (case b => kernel_rfl); (case c => kernel_rfl); k_whole) | (refine' nameX_C ?N ?h ?m ?d ?_ ?a ?b ?c; (case h => rfl); (case N => k_asm); (case m => k_mem); (case d => k_asm); (case a => kernel_rfl); (case b => kernel_rfl); (case c => kernel_rfl); k_whole) | (refine' nameX_L ?F ?v ?_ ?a ?b ?c; (case F => k_asm); (case v => rfl); (case a => kernel_rfl); (case b => kernel_rfl); (case c => kernel_rfl); k_whole) | (refine' nameX_B ?F ?X ?T ?e ?v ?n ?_ ?a ?b ?c; (case F => k_asm); (case X => k_asm); (case T => k_asm); (case e => k_is); (case v => boot_fast); (case n => decide); (case a => kernel_rfl); (case b => kernel_rfl); (case c => kernel_rfl); k_whole)))); (k_with "ite" => (k_closed; first | (refine ite_pos ?h ?_; (case h => k_dflt (decide +kernel))) | (refine ite_neg ?h ?_; (case h => k_dflt (decide +kernel))))); (k_with "call builtin:len" => (k_here; (with_reducible show wpAny _ _ (call (Value.builtin "len") [Value.ref _]) _ _ _); k_dflt (refine' ba_len_K ?k1 ?k2 ?k3 ?_; (case k1 => k_asm); (case k2 => k_mem); (case k3 => omega); k_whole); intro t' k')); (k_with "call type:bytes" => (k_here; (with_reducible show wpAny _ _ (call (Value.type "bytes") [Value.ref _]) _ _ _); k_dflt (refine' ba_bytes_K ?k1 ?k2 ?k3 ?_; (case k1 => k_asm); (case k2 => k_mem); (case k3 => exact Nat.lt_of_le_of_lt (KBc.size_picked_le _ _ _) (by omega)); k_whole); intro t' k')); (k_with "subscriptTail" => (k_here; (with_reducible show wpAny _ _ (subscriptTail _ _ (Value.ref _) (Value.ref _)) _ _ _); k_dflt (refine' ba_slice_K ?k1 ?k2 ?k3 ?k4 ?k5 ?k6 ?_ ?k7 ?k8; (case k1 => k_asm); (case k2 => k_asm); (case k3 => k_mem); (case k4 => constructor); (case k5 => constructor); (case k6 => omega); (case k7 => with_unfolding_all rfl); (case k8 => intro _; with_unfolding_all rfl); k_whole); intro x' h' F' N' l1; (try k_lt l1); (try k_sweep))); (k_with "getMethod ref" => (k_here; (with_reducible show wpAny _ _ (getMethod (Value.ref _) (PySem.Str.ofString "find") _) _ _ _); k_dflt (refine' ba_method_K ?k1 ?k2 ?_; (case k1 => k_asm); (case k2 => k_mem); k_whole))); (k_with "call builtin:bytearray.find" => (k_here; k_dflt (refine' ba_find_K ?k1 ?k2 ?k3 ?k4 ?k5 ?_; (case k1 => k_asm); (case k2 => k_mem); (case k3 => omega); (case k4 => omega); (case k5 => omega); k_whole); intro t')); (k_with "call type:type" => ((with_reducible show wpAny _ _ (call _ [Value.bytes _ _]) _ _ _); refine call_type_of (Tx := "bytes") (typeIs_bytes _ _ _) (by decide +kernel) ?_)); (k_with "call builtin:list.pop" => (k_here; k_dflt (refine' pop0_K ?k1 ?k2 ?k3 ?k4 ?_; (case k1 => k_asm); (case k2 => k_asm); (case k3 => k_upd); (case k4 => omega); k_whole); intro h' F' N'; (try k_sweep))); (k_with "truthy ref" => (k_here; k_dflt (refine' truthyL_K ?k1 ?k2 ?k3 ?_; (case k1 => k_asm); (case k2 => k_mem); (case k3 => omega); k_whole))); (k_with "call ref" => (k_here; (first | (with_reducible show wpAny _ _ (call (Value.ref 501) _) _ _ _) | (with_reducible show wpAny _ _ (call (Value.ref (nat_lit 501)) _) _ _ _)); k_dflt (refine' sb_tell ?B ?F ?X ?T ?N ?hk ?hz ?hq ?hb ?hd ?hu ?_; (case B => k_asm); (case F => k_asm); (case X => k_asm); (case T => k_asm); (case N => k_asm); (case hk => rfl); (case hz => first | exact rfl | omega); (case hq => omega); (case hb => omega); (case hd => first | omega | (dsimp only [Ar, Around.deeper]; omega)); (case hu => first | omega | (dsimp only [Ar, Around.deeper]; omega)); k_whole); intro h' t' tq' tv' F' N'; (try k_sweep))); (k_with "call ref" => (k_here; (first | (with_reducible show wpAny _ _ (call (Value.ref 509) _) _ _ _) | (with_reducible show wpAny _ _ (call (Value.ref (nat_lit 509)) _) _ _ _)); k_dflt (refine' sb_seekEnd ?B ?F ?X ?T ?N ?hk ?hz ?hq ?hb ?hd ?hu ?_; (case B => k_asm); (case F => k_asm); (case X => k_asm); (case T => k_asm); (case N => k_asm); (case hk => rfl); (case hz => first | exact rfl | omega); (case hq => omega); (case hb => omega); (case hd => first | omega | (dsimp only [Ar, Around.deeper]; omega)); (case hu => first | omega | (dsimp only [Ar, Around.deeper]; omega)); k_whole); intro h' t' tq' tv' F' N'; (try k_sweep))); (k_with "call ref" => (k_here; (first | (with_reducible show wpAny _ _ (call (Value.ref 509) _) _ _ _) | (with_reducible show wpAny _ _ (call (Value.ref (nat_lit 509)) _) _ _ _)); k_dflt (refine' sb_seekTo ?B ?F ?X ?T ?N ?hk ?hz ?hq ?hb ?hi ?hd ?hu ?_; (case B => k_asm); (case F => k_asm); (case X => k_asm); (case T => k_asm); (case N => k_asm); (case hk => rfl); (case hz => first | exact rfl | omega); (case hq => omega); (case hb => omega); (case hi => omega); (case hd => first | omega | (dsimp only [Ar, Around.deeper]; omega)); (case hu => first | omega | (dsimp only [Ar, Around.deeper]; omega)); k_whole); intro h' t' tq' tv' F' N'; (try k_sweep))); (k_with "call ref" => (k_here; (first | (with_reducible show wpAny _ _ (call (Value.ref 525) _) _ _ _) | (with_reducible show wpAny _ _ (call (Value.ref (nat_lit 525)) _) _ _ _)); k_dflt (refine' sb_read ?B ?F ?X ?T ?N ?hk ?hz ?hq ?hb ?hi ?hd ?hu ?_; (case B => k_asm); (case F => k_asm); (case X => k_asm); (case T => k_asm); (case N => k_asm); (case hk => rfl); (case hz => first | exact rfl | omega); (case hq => omega); (case hb => omega); (case hi => omega); (case hd => first | omega | (dsimp only [Ar, Around.deeper]; omega)); (case hu => first | omega | (dsimp only [Ar, Around.deeper]; omega)); k_whole); intro h' t' tq' tv' F' N'; (try k_sweep))); (k_with "call ref" => (k_here; (first | (with_reducible show wpAny _ _ (call (Value.ref 555) _) _ _ _) | (with_reducible show wpAny _ _ (call (Value.ref (nat_lit 555)) _) _ _ _)); k_dflt (refine' sb_readline ?B ?F ?X ?T ?N ?hk ?hz ?hq ?hb ?hd ?hu ?_; (case B => k_asm); (case F => k_asm); (case X => k_asm); (case T => k_asm); (case N => k_asm); (case hk => rfl); (case hz => first | exact rfl | omega); (case hq => omega); (case hb => omega); (case hd => first | omega | (dsimp only [Ar, Around.deeper]; omega)); (case hu => first | omega | (dsimp only [Ar, Around.deeper]; omega)); k_whole); intro h' t' tq' tv' F' N'; (try k_sweep))); (k_with "call ref" => (k_here; (first | (with_reducible show wpAny _ _ (call (Value.ref 509) _) _ _ _) | (with_reducible show wpAny _ _ (call (Value.ref (nat_lit 509)) _) _ _ _)); k_dflt (refine' sb_seekToZ ?B ?F ?X ?T ?N ?hk ?hz ?hq ?hb ?h0 ?hi ?hd ?hu ?_; (case B => k_asm); (case F => k_asm); (case X => k_asm); (case T => k_asm); (case N => k_asm); (case hk => rfl); (case hz => first | exact rfl | omega); (case hq => omega); (case hb => omega); (case h0 => omega); (case hi => omega); (case hd => first | omega | (dsimp only [Ar, Around.deeper]; omega)); (case hu => first | omega | (dsimp only [Ar, Around.deeper]; omega)); k_whole); intro h' t' tq' tv' F' N'; (try k_sweep))); (k_with "call ref" => (k_here; (first | (with_reducible show wpAny _ _ (call (Value.ref 525) _) _ _ _) | (with_reducible show wpAny _ _ (call (Value.ref (nat_lit 525)) _) _ _ _)); k_dflt (refine' sb_readZ ?B ?F ?X ?T ?N ?hk ?hz ?hq ?hb ?h0 ?hi ?hd ?hu ?_; (case B => k_asm); (case F => k_asm); (case X => k_asm); (case T => k_asm); (case N => k_asm); (case hk => rfl); (case hz => first | exact rfl | omega); (case hq => omega); (case hb => omega); (case h0 => omega); (case hi => omega); (case hd => first | omega | (dsimp only [Ar, Around.deeper]; omega)); (case hu => first | omega | (dsimp only [Ar, Around.deeper]; omega)); k_whole); intro h' t' tq' tv' F' N'; (try k_sweep))); (k_with "getMethod bytes" => (k_here; (with_reducible refine by_ends_method ?_))); (k_with "call builtin:bytes.endswith" => (k_here; refine by_ends ?_)); (k_with "binaryOp Add bytes bytes" => (k_here; (with_reducible show wpAny _ _ (binaryOp Operator.Add (Value.bytes _ _) (Value.bytes _ _)) _ _ _); (refine by_add (by first | omega | (simp only [List.length_append]; omega)) ?_); intro _ _)); (k_with "inplaceOp Add bytes bytes" => (k_here; (refine by_iadd (by first | omega | (simp only [List.length_append]; omega)) ?_); intro _ _)); (k_with "subscriptTail" => (k_here; (with_reducible show wpAny _ _ (subscriptTail _ _ (Value.bytes _ _) (Value.ref _)) _ _ _); k_dflt (refine' by_slice (s := ⟨_, _, _, _, _⟩) ?k1 ?k2 ?k3 ?k4 ?k5 ?_ ?k6 ?k7; (case k1 => k_asm); (case k2 => k_asm); (case k3 => constructor); (case k4 => constructor); (case k5 => first | omega | (simp only [List.length_append, List.length_cons, List.length_nil]; omega)); (case k6 => with_unfolding_all rfl); (case k7 => intro _; with_unfolding_all rfl); k_whole); intro h' t' tk' F' N'; (try k_sweep))); (k_with "call builtin:len" => (k_here; (with_reducible show wpAny _ _ (call (Value.builtin "len") [Value.bytes (List.toArray _) _]) _ _ _); (refine by_len (by first | omega | (simp only [List.length_append]; omega)) ?_); intro _ _))))
theorem sbread_does (w : World) (p : Program) (loose : List Str) (mean : ExcName → Option Value) (mg mb : Str → Option Value) (k : K4) (sb sd b bd ba pl : Addr) (h1 h2 : Int) (t1 t2 u0 : Tok) (bs : List UInt8) (q : Nat) (t : Tok) (ps : List (List UInt8)) (vs : List Value) (n : Nat) (pay R' : List UInt8) (hll : pay.length < 80000) (S : Strm bs q vs ps (pay ++ 13 :: 10 :: R')) (tl : Tok) :
    DoesC (Mine.frag.heap_1 w.params) PySem.Challenge.rw_ez0337_01.row.prog w p loose mean mg mb 14 895 [.ref sb, .int ((pay.length : Nat) : Int) tl] [("timeout", .ref 300)] [(sb, instObj 934 sd), (sd, sbD k (.ref pl) 4 u0 .none b), (b, instObj 601 bd), (bd, bioD h1 h2 t1 t2 ba (q : Int) t), (ba, baObj (bs).toArray), (pl, listOf (vs).toArray n)] (fun _ => True) (fun _ v h' => (∃ tv bb, bb = pay.toArray ∧ v = .bytes bb tv) ∧ ∃ bs' q' vs' ps' n', Strm bs' q' vs' ps' (R') ∧ ∃ z tq bb vv, z = ((q' : Nat) : Int) ∧ bb = (bs').toArray ∧ vv = (vs').toArray ∧ h'.get? sb = some (instObj 934 sd) ∧ h'.get? sd = some (sbD k (.ref pl) 4 u0 .none b) ∧ h'.get? b = some (instObj 601 bd) ∧ h'.get? bd = some (bioD h1 h2 t1 t2 ba z tq) ∧ h'.get? ba = some (baObj bb) ∧ h'.get? pl = some (listOf vv (n'))) := by
  k_fill
  intro dp un gd outer base g A₀ s R B st X T hW hsz hPre hd hu kont
  refine' enterC st X T hW hsz ?ho ?hcd ?hroom ?hbind ?hloc ?_ ?c2 ?c3 ?c4 ?c5
  case ho => k_is
  case hcd => k_is
  case hroom => omega
  case hbind => first | exact BindsTo.of_eq rfl | exact binds_K (X.keeps fun b o e => st b o e) rfl (by k_is) rfl rfl rfl
  case hloc => exact locs rfl
  case c2 => rfl
  case c3 => rfl
  case c4 => rfl
  case c5 => decide
  intro L' h₁ F N hlt
  (try k_lt hlt)
  dsimp only
  obtain ⟨hq, hP, hR, hT⟩ := id S
  have hpl := PartsV.len hP
  have hN6 := sb_ne6 N
  have eN : (((pay.length : Nat) : Int) + 2).toNat = pay.length + 2 := by omega
  have hdl : ((bs.drop q).take (pay.length + 2)).length ≤ pay.length + 2 := by rw [List.length_take]; omega
  refine C_consK ?_
  k_steps
  all_goals (try dsimp only)
  refine C_consK ?_
  k_steps
  all_goals (try dsimp only)
  rename Fr g L' _ _ => kF
  rename News g L' _ _ => kN
  rw [eN] at kF kN
  refine C_consK ?_
  k_steps
  all_goals (try dsimp only)
  refine C_cons (C_If ?_)
  k_steps
  all_goals (try dsimp only)
  · rename_i hE
    obtain ⟨mm, hmm⟩ : ∃ mm : Nat, mm + ((bs.drop q).take (pay.length + 2)).length = pay.length + 2 := ⟨_, Nat.sub_add_cancel hdl⟩
    have h0 : 0 < mm := by omega
    obtain ⟨g1, g2, g3⟩ := rd_part S hmm h0
    have eM : (((pay.length : Nat) : Int) + 2 - (((bs.drop q).take (pay.length + 2)).length : Int)).toNat = mm := by omega
    refine C_cons (C_Expr (C_Call ?_))
    k_steps
    refine C_callKW0 (K := Mine.frag.heap_1 w.params) ?kK ?kA ?_
    case kK => k_is
    case kA => rfl
    k_steps
    rename Fr g L' _ _ => kF
    rename News g L' _ _ => kN
    (try dsimp only [List.cons_append, List.nil_append])
    refine' sb_rfsL B kF X T kN rfl rfl (Nat.le_of_eq g1) hP (by omega) (by omega) (mm := mm) (by omega) h0 g2 ?hd ?hu ?_
    case hd => show dp + 1 + 12 < recursionLimit; omega
    case hu => show un + 3 + 8 * 12 < cLine; omega
    intro h₄ t₄ tq₄ c ps2 vs2 n2 F₄ N₄ hP2 hc hmc
    clear kF kN
    (try dsimp only)
    obtain ⟨e1, e2, S2⟩ := g3 c ps2 vs2 hP2 hc hmc
    have y2 : (bs ++ c).length = bs.length + c.length := List.length_append
    have y3 := congrArg List.length hc
    rw [List.length_append] at y3
    have e2' := e2
    rw [← eM] at e2'
    refine C_consK ?_
    k_steps
    all_goals (try dsimp only)
    refine C_nil ?_
    (try dsimp only)
    refine C_consK ?_
    k_steps
    all_goals (try dsimp only)
    rename News g L' _ _ => kN7
    rw [eM, e2] at kN7
    rw [eM, e1, cut_m2]
    refine kont _ _ _ (Fr.keep (by assumption)) ⟨⟨_, _, rfl, rfl⟩, bs ++ c, _, vs2, ps2, n2, S2, _, _, _, _, rfl, rfl, rfl, kN7.get (by k_mem), kN7.get (by k_mem), kN7.get (by k_mem), kN7.get (by k_mem), kN7.get (by k_mem), kN7.get (by k_mem)⟩
  · rename_i hE
    have hE' : ((bs.drop q).take (pay.length + 2)).length = pay.length + 2 := by omega
    obtain ⟨e1, S2⟩ := rd_whole S hE'
    refine C_nil ?_
    (try dsimp only)
    refine C_consK ?_
    k_steps
    all_goals (try dsimp only)
    rename News g L' _ _ => kN7
    rw [hE'] at kN7
    rw [e1, cut_m2]
    refine kont _ _ _ (Fr.keep (by assumption)) ⟨⟨_, _, rfl, rfl⟩, bs, _, vs, ps, n, S2, _, _, _, _, rfl, rfl, rfl, kN7.get (by k_mem), kN7.get (by k_mem), kN7.get (by k_mem), kN7.get (by k_mem), kN7.get (by k_mem), kN7.get (by k_mem)⟩

end Mine
end EzRn
section EzPu
open PySem PySem.W PyProof.Rows PySem.Calls
namespace Mine
set_option maxRecDepth 100000
set_option maxHeartbeats 1000000
local macro_rules | `(tactic| k_in) => `(tactic| first | k_in_fast | exact Frag.In.keeps (by k_asm) (Fr.keep (by k_asm)))
local macro_rules | `(tactic| k_room) => `(tactic| ktr_room)
local macro_rules | `(tactic| k_units) => `(tactic| ktr_units)
local macro_rules | `(tactic| k_ne) => `(tactic| (refine neN ?_; (try dsimp only); (with_reducible rename Ne6 _ _ _ _ _ _ => kNe); first | exact kNe.m1 | exact kNe.s1 | exact kNe.m2 | exact kNe.s2 | exact kNe.m3 | exact kNe.s3 | exact kNe.m4 | exact kNe.s4 | exact kNe.m5 | exact kNe.s5 | exact kNe.m6 | exact kNe.s6 | exact kNe.m7 | exact kNe.s7 | exact kNe.m8 | exact kNe.s8 | exact kNe.m9 | exact kNe.s9 | exact kNe.m10 | exact kNe.s10 | exact kNe.m11 | exact kNe.s11 | exact kNe.m12 | exact kNe.s12 | exact kNe.m13 | exact kNe.s13 | exact kNe.m14 | exact kNe.s14 | exact kNe.m15 | exact kNe.s15 | omega))
local macro_rules | `(tactic| k_fill) => `(tactic| (k_with_none; (k_with "eval Name" => (k_here; k_dflt (first | (refine' nameX_K ?F ?X ?T ?e ?_ ?a ?b ?c; (case F => k_asm); (case X => k_asm); (case T => k_asm); (case e => k_is); (case a => kernel_rfl); (case b => kernel_rfl); (case c => kernel_rfl); k_whole) | (refine' nameX_C ?N ?h ?m ?d ?_ ?a ?b ?c; (case h => rfl); (case N => k_asm); (case m => k_mem); (case d => k_asm); (case a => kernel_rfl); (case b => kernel_rfl); (case c => kernel_rfl); k_whole) | (refine' nameX_L ?F ?v ?_ ?a ?b ?c; (case F => k_asm); (case v => rfl); (case a => kernel_rfl); (case b => kernel_rfl); (case c => kernel_rfl); k_whole) | (refine' nameX_B ?F ?X ?T ?e ?v ?n ?_ ?a ?b ?c; (case F => k_asm); (case X => k_asm); (case T => k_asm); (case e => k_is); (case v => boot_fast); (case n => decide); (case a => kernel_rfl); (case b => kernel_rfl); (case c => kernel_rfl); k_whole)))); (k_with "ite" => (k_closed; first | (refine ite_pos ?h ?_; (case h => k_dflt (decide +kernel))) | (refine ite_neg ?h ?_; (case h => k_dflt (decide +kernel))))); (k_with "call builtin:len" => (k_here; (with_reducible show wpAny _ _ (call (Value.builtin "len") [Value.ref _]) _ _ _); k_dflt (refine' ba_len_K ?k1 ?k2 ?k3 ?_; (case k1 => k_asm); (case k2 => k_mem); (case k3 => omega); k_whole); intro t' k')); (k_with "call type:bytes" => (k_here; (with_reducible show wpAny _ _ (call (Value.type "bytes") [Value.ref _]) _ _ _); k_dflt (refine' ba_bytes_K ?k1 ?k2 ?k3 ?_; (case k1 => k_asm); (case k2 => k_mem); (case k3 => exact Nat.lt_of_le_of_lt (KBc.size_picked_le _ _ _) (by omega)); k_whole); intro t' k')); (k_with "subscriptTail" => (k_here; (with_reducible show wpAny _ _ (subscriptTail _ _ (Value.ref _) (Value.ref _)) _ _ _); k_dflt (refine' ba_slice_K ?k1 ?k2 ?k3 ?k4 ?k5 ?k6 ?_ ?k7 ?k8; (case k1 => k_asm); (case k2 => k_asm); (case k3 => k_mem); (case k4 => constructor); (case k5 => constructor); (case k6 => omega); (case k7 => with_unfolding_all rfl); (case k8 => intro _; with_unfolding_all rfl); k_whole); intro x' h' F' N' l1; (try k_lt l1); (try k_sweep))); (k_with "getMethod ref" => (k_here; (with_reducible show wpAny _ _ (getMethod (Value.ref _) (PySem.Str.ofString "find") _) _ _ _); k_dflt (refine' ba_method_K ?k1 ?k2 ?_; (case k1 => k_asm); (case k2 => k_mem); k_whole))); (k_with "call builtin:bytearray.find" => (k_here; k_dflt (refine' ba_find_K ?k1 ?k2 ?k3 ?k4 ?k5 ?_; (case k1 => k_asm); (case k2 => k_mem); (case k3 => omega); (case k4 => omega); (case k5 => omega); k_whole); intro t')); (k_with "call type:type" => ((with_reducible show wpAny _ _ (call _ [Value.bytes _ _]) _ _ _); refine call_type_of (Tx := "bytes") (typeIs_bytes _ _ _) (by decide +kernel) ?_)); (k_with "call builtin:list.pop" => (k_here; k_dflt (refine' pop0_K ?k1 ?k2 ?k3 ?k4 ?_; (case k1 => k_asm); (case k2 => k_asm); (case k3 => k_upd); (case k4 => omega); k_whole); intro h' F' N'; (try k_sweep))); (k_with "truthy ref" => (k_here; k_dflt (refine' truthyL_K ?k1 ?k2 ?k3 ?_; (case k1 => k_asm); (case k2 => k_mem); (case k3 => omega); k_whole))); (k_with "call ref" => (k_here; (first | (with_reducible show wpAny _ _ (call (Value.ref 501) _) _ _ _) | (with_reducible show wpAny _ _ (call (Value.ref (nat_lit 501)) _) _ _ _)); k_dflt (refine' sb_tell ?B ?F ?X ?T ?N ?hk ?hz ?hq ?hb ?hd ?hu ?_; (case B => k_asm); (case F => k_asm); (case X => k_asm); (case T => k_asm); (case N => k_asm); (case hk => rfl); (case hz => first | exact rfl | omega); (case hq => omega); (case hb => omega); (case hd => first | omega | (dsimp only [Ar, Around.deeper]; omega)); (case hu => first | omega | (dsimp only [Ar, Around.deeper]; omega)); k_whole); intro h' t' tq' tv' F' N'; (try k_sweep))); (k_with "call ref" => (k_here; (first | (with_reducible show wpAny _ _ (call (Value.ref 509) _) _ _ _) | (with_reducible show wpAny _ _ (call (Value.ref (nat_lit 509)) _) _ _ _)); k_dflt (refine' sb_seekEnd ?B ?F ?X ?T ?N ?hk ?hz ?hq ?hb ?hd ?hu ?_; (case B => k_asm); (case F => k_asm); (case X => k_asm); (case T => k_asm); (case N => k_asm); (case hk => rfl); (case hz => first | exact rfl | omega); (case hq => omega); (case hb => omega); (case hd => first | omega | (dsimp only [Ar, Around.deeper]; omega)); (case hu => first | omega | (dsimp only [Ar, Around.deeper]; omega)); k_whole); intro h' t' tq' tv' F' N'; (try k_sweep))); (k_with "call ref" => (k_here; (first | (with_reducible show wpAny _ _ (call (Value.ref 509) _) _ _ _) | (with_reducible show wpAny _ _ (call (Value.ref (nat_lit 509)) _) _ _ _)); k_dflt (refine' sb_seekTo ?B ?F ?X ?T ?N ?hk ?hz ?hq ?hb ?hi ?hd ?hu ?_; (case B => k_asm); (case F => k_asm); (case X => k_asm); (case T => k_asm); (case N => k_asm); (case hk => rfl); (case hz => first | exact rfl | omega); (case hq => omega); (case hb => omega); (case hi => omega); (case hd => first | omega | (dsimp only [Ar, Around.deeper]; omega)); (case hu => first | omega | (dsimp only [Ar, Around.deeper]; omega)); k_whole); intro h' t' tq' tv' F' N'; (try k_sweep))); (k_with "call ref" => (k_here; (first | (with_reducible show wpAny _ _ (call (Value.ref 525) _) _ _ _) | (with_reducible show wpAny _ _ (call (Value.ref (nat_lit 525)) _) _ _ _)); k_dflt (refine' sb_read ?B ?F ?X ?T ?N ?hk ?hz ?hq ?hb ?hi ?hd ?hu ?_; (case B => k_asm); (case F => k_asm); (case X => k_asm); (case T => k_asm); (case N => k_asm); (case hk => rfl); (case hz => first | exact rfl | omega); (case hq => omega); (case hb => omega); (case hi => omega); (case hd => first | omega | (dsimp only [Ar, Around.deeper]; omega)); (case hu => first | omega | (dsimp only [Ar, Around.deeper]; omega)); k_whole); intro h' t' tq' tv' F' N'; (try k_sweep))); (k_with "call ref" => (k_here; (first | (with_reducible show wpAny _ _ (call (Value.ref 555) _) _ _ _) | (with_reducible show wpAny _ _ (call (Value.ref (nat_lit 555)) _) _ _ _)); k_dflt (refine' sb_readline ?B ?F ?X ?T ?N ?hk ?hz ?hq ?hb ?hd ?hu ?_; (case B => k_asm); (case F => k_asm); (case X => k_asm); (case T => k_asm); (case N => k_asm); (case hk => rfl); (case hz => first | exact rfl | omega); (case hq => omega); (case hb => omega); (case hd => first | omega | (dsimp only [Ar, Around.deeper]; omega)); (case hu => first | omega | (dsimp only [Ar, Around.deeper]; omega)); k_whole); intro h' t' tq' tv' F' N'; (try k_sweep))); (k_with "call ref" => (k_here; (first | (with_reducible show wpAny _ _ (call (Value.ref 509) _) _ _ _) | (with_reducible show wpAny _ _ (call (Value.ref (nat_lit 509)) _) _ _ _)); k_dflt (refine' sb_seekToZ ?B ?F ?X ?T ?N ?hk ?hz ?hq ?hb ?h0 ?hi ?hd ?hu ?_; (case B => k_asm); (case F => k_asm); (case X => k_asm); (case T => k_asm); (case N => k_asm); (case hk => rfl); (case hz => first | exact rfl | omega); (case hq => omega); (case hb => omega); (case h0 => omega); (case hi => omega); (case hd => first | omega | (dsimp only [Ar, Around.deeper]; omega)); (case hu => first | omega | (dsimp only [Ar, Around.deeper]; omega)); k_whole); intro h' t' tq' tv' F' N'; (try k_sweep))); (k_with "call ref" => (k_here; (first | (with_reducible show wpAny _ _ (call (Value.ref 525) _) _ _ _) | (with_reducible show wpAny _ _ (call (Value.ref (nat_lit 525)) _) _ _ _)); k_dflt (refine' sb_readZ ?B ?F ?X ?T ?N ?hk ?hz ?hq ?hb ?h0 ?hi ?hd ?hu ?_; (case B => k_asm); (case F => k_asm); (case X => k_asm); (case T => k_asm); (case N => k_asm); (case hk => rfl); (case hz => first | exact rfl | omega); (case hq => omega); (case hb => omega); (case h0 => omega); (case hi => omega); (case hd => first | omega | (dsimp only [Ar, Around.deeper]; omega)); (case hu => first | omega | (dsimp only [Ar, Around.deeper]; omega)); k_whole); intro h' t' tq' tv' F' N'; (try k_sweep))); (k_with "getMethod bytes" => (k_here; (with_reducible refine by_ends_method ?_))); (k_with "call builtin:bytes.endswith" => (k_here; refine by_ends ?_)); (k_with "binaryOp Add bytes bytes" => (k_here; (with_reducible show wpAny _ _ (binaryOp Operator.Add (Value.bytes _ _) (Value.bytes _ _)) _ _ _); (refine by_add (by first | omega | (simp only [List.length_append]; omega)) ?_); intro _ _)); (k_with "inplaceOp Add bytes bytes" => (k_here; (refine by_iadd (by first | omega | (simp only [List.length_append]; omega)) ?_); intro _ _)); (k_with "subscriptTail" => (k_here; (with_reducible show wpAny _ _ (subscriptTail _ _ (Value.bytes _ _) (Value.ref _)) _ _ _); k_dflt (refine' by_slice (s := ⟨_, _, _, _, _⟩) ?k1 ?k2 ?k3 ?k4 ?k5 ?_ ?k6 ?k7; (case k1 => k_asm); (case k2 => k_asm); (case k3 => constructor); (case k4 => constructor); (case k5 => first | omega | (simp only [List.length_append, List.length_cons, List.length_nil]; omega)); (case k6 => with_unfolding_all rfl); (case k7 => intro _; with_unfolding_all rfl); k_whole); intro h' t' tk' F' N'; (try k_sweep))); (k_with "call builtin:len" => (k_here; (with_reducible show wpAny _ _ (call (Value.builtin "len") [Value.bytes (List.toArray _) _]) _ _ _); (refine by_len (by first | omega | (simp only [List.length_append]; omega)) ?_); intro _ _))))
theorem sbpos_does (w : World) (p : Program) (loose : List Str) (mean : ExcName → Option Value) (mg mb : Str → Option Value) (k : K4) (sb sd b bd ba pl : Addr) (h1 h2 : Int) (t1 t2 u0 : Tok) (bs : List UInt8) (q : Nat) (t : Tok) (ps : List (List UInt8)) (vs : List Value) (n : Nat) (R' : List UInt8) (S : Strm bs q vs ps R') :
    Does (Mine.frag.heap_1 w.params) PySem.Challenge.rw_ez0337_01.row.prog w p loose mean mg mb 8 910 [.ref sb] [] [(sb, instObj 934 sd), (sd, sbD k (.ref pl) 4 u0 .none b), (b, instObj 601 bd), (bd, bioD h1 h2 t1 t2 ba (q : Int) t), (ba, baObj (bs).toArray), (pl, listOf (vs).toArray n)] (fun _ => True) (fun _ v h' => (∃ tv zz, zz = ((q : Nat) : Int) ∧ v = .int zz tv) ∧ ∃ z tq bb vv, z = ((q : Nat) : Int) ∧ bb = (bs).toArray ∧ vv = (vs).toArray ∧ h'.get? sb = some (instObj 934 sd) ∧ h'.get? sd = some (sbD k (.ref pl) 4 u0 .none b) ∧ h'.get? b = some (instObj 601 bd) ∧ h'.get? bd = some (bioD h1 h2 t1 t2 ba z tq) ∧ h'.get? ba = some (baObj bb) ∧ h'.get? pl = some (listOf vv (n))) := by
  k_fill
  intro dp un gd outer base g A₀ s R B st X T hW hsz hPre hd hu kont
  refine' enter st X T hW hsz ?ho ?hcd ?hroom ?hbind ?hloc ?_ ?c2 ?c3 ?c4 ?c5
  case ho => k_is
  case hcd => k_is
  case hroom => omega
  case hbind => first | exact BindsTo.of_eq rfl | exact binds_K (X.keeps fun b o e => st b o e) rfl (by k_is) rfl rfl rfl
  case hloc => exact locs rfl
  case c2 => rfl
  case c3 => rfl
  case c4 => rfl
  case c5 => decide
  intro L' h₁ F N hlt
  (try k_lt hlt)
  dsimp only
  obtain ⟨hq, hP, hR, hT⟩ := id S
  have hpl := PartsV.len hP
  have hN6 := sb_ne6 N
  k_steps
  all_goals (try dsimp only)
  rename News g L' _ _ => kN7
  refine kont _ _ _ (Fr.keep (by assumption)) ⟨⟨_, _, ?_, rfl⟩, _, _, _, _, ?_, rfl, rfl, kN7.get (by k_mem), kN7.get (by k_mem), kN7.get (by k_mem), kN7.get (by k_mem), kN7.get (by k_mem), kN7.get (by k_mem)⟩
  all_goals first | rfl | omega

theorem sbpurge_does (w : World) (p : Program) (loose : List Str) (mean : ExcName → Option Value) (mg mb : Str → Option Value) (k : K4) (sb sd b bd ba pl : Addr) (h1 h2 : Int) (t1 t2 u0 : Tok) (bs : List UInt8) (q : Nat) (t : Tok) (ps : List (List UInt8)) (vs : List Value) (n : Nat) (R' : List UInt8) (S : Strm bs q vs ps R') :
    DoesC (Mine.frag.heap_1 w.params) PySem.Challenge.rw_ez0337_01.row.prog w p loose mean mg mb 14 924 [.ref sb] [] [(sb, instObj 934 sd), (sd, sbD k (.ref pl) 4 u0 .none b), (b, instObj 601 bd), (bd, bioD h1 h2 t1 t2 ba (q : Int) t), (ba, baObj (bs).toArray), (pl, listOf (vs).toArray n)] (fun _ => True) (fun _ v h' => v = .none ∧ ∃ bs' q' vs' ps' n', Strm bs' q' vs' ps' (R') ∧ ∃ z tq bb vv, z = ((q' : Nat) : Int) ∧ bb = (bs').toArray ∧ vv = (vs').toArray ∧ h'.get? sb = some (instObj 934 sd) ∧ h'.get? sd = some (sbD k (.ref pl) 4 u0 .none b) ∧ h'.get? b = some (instObj 601 bd) ∧ h'.get? bd = some (bioD h1 h2 t1 t2 ba z tq) ∧ h'.get? ba = some (baObj bb) ∧ h'.get? pl = some (listOf vv (n'))) := by
  k_fill
  intro dp un gd outer base g A₀ s R B st X T hW hsz hPre hd hu kont
  refine' enterC st X T hW hsz ?ho ?hcd ?hroom ?hbind ?hloc ?_ ?c2 ?c3 ?c4 ?c5
  case ho => k_is
  case hcd => k_is
  case hroom => omega
  case hbind => first | exact BindsTo.of_eq rfl | exact binds_K (X.keeps fun b o e => st b o e) rfl (by k_is) rfl rfl rfl
  case hloc => exact locs rfl
  case c2 => rfl
  case c3 => rfl
  case c4 => rfl
  case c5 => decide
  intro L' h₁ F N hlt
  (try k_lt hlt)
  dsimp only
  obtain ⟨hq, hP, hR, hT⟩ := id S
  have hpl := PartsV.len hP
  have hN6 := sb_ne6 N
  refine C_consK ?_
  k_steps
  all_goals (try dsimp only)
  refine C_cons (C_If ?_)
  k_steps
  all_goals (try dsimp only)
  · rename_i hE
    refine C_consK ?_
    k_steps
    all_goals (try dsimp only)
    rename News g L' _ _ => kN7
    refine kont _ _ _ (Fr.keep (by assumption)) ⟨rfl, bs, q, vs, ps, n, S, _, _, _, _, ?_, rfl, rfl, kN7.get (by k_mem), kN7.get (by k_mem), kN7.get (by k_mem), kN7.get (by k_mem), kN7.get (by k_mem), kN7.get (by k_mem)⟩
    all_goals first | rfl | omega
  · rename_i hE
    have e0 : ((bs.length : Nat) : Int) - ((q : Nat) : Int) = 0 := by omega
    have e1 : q = bs.length := by omega
    have e2 : ps.flatten = R' := by rw [← hR, e1, List.drop_length]; rfl
    refine C_nil ?_
    (try dsimp only)
    rename Fr g L' _ _ => kF
    rw [e0] at kF
    refine C_cons (C_Expr (C_Call ?_))
    k_steps
    refine C_callK (K := Mine.frag.heap_1 w.params) ?kK ?_
    case kK => k_is
    k_steps
    rename Fr g L' _ _ => kF
    rename News g L' _ _ => kN
    (try dsimp only [List.cons_append, List.nil_append])
    refine' sb_trunc B kF X T kN rfl rfl (by omega) ?hd ?hu ?_
    case hd => show dp + 1 + 6 < recursionLimit; omega
    case hu => show un + 3 + 8 * 6 < cLine; omega
    intro h₄ t₄ tq₄ tv₄ F₄ N₄
    clear kF kN
    (try dsimp only)
    refine C_consK ?_
    k_steps
    all_goals (try dsimp only)
    refine C_nil ?_
    (try dsimp only)
    rename News g L' _ _ => kN7
    refine kont _ _ _ (Fr.keep (by assumption)) ⟨rfl, [], 0, vs, ps, n, ⟨Nat.le_refl _, hP, e2, by simp only [List.length_nil]; omega⟩, _, _, _, _, ?_, rfl, rfl, kN7.get (by k_mem), kN7.get (by k_mem), kN7.get (by k_mem), kN7.get (by k_mem), kN7.get (by k_mem), kN7.get (by k_mem)⟩
    all_goals first | rfl | omega

end Mine
end EzPu
section EzCall3
open PySem PySem.W PyProof.Rows PySem.Calls
namespace Mine
set_option maxRecDepth 100000
set_option maxHeartbeats 1000000
section
variable {w : World} {p : Program} {loose : List PySem.Str} {mean : ExcName → Option Value} {mg mb : PySem.Str → Option Value}
variable {A₀ : Around} {base g : Heap} {outer : List Env} {s : Shared} {L a : Addr} {m : PySem.Str → Option Value} {cn : PySem.Str} {cs : Scope} {ccd : Value} {cl : List (PySem.Str × Addr)} {dp un : Nat} {gd : Option (List Code)}
variable {k : K4} {sb sd b bd ba pl : Addr} {h1 h2 : Int} {t1 t2 u0 t : Tok} {bs : List UInt8} {vs : List Value} {n : Nat} {z : Int}
theorem s6_readline {Q : Value → Shared → Prop} (B : Below A₀ base outer g) (F : Fr g L s.heap m) (X : (Mine.frag.heap_1 w.params).In g) (T : Top p loose mean mg mb g) {keep : List (Addr × Obj)}
    (N : News g L s.heap ([(sb, instObj 934 sd), (sd, sbD k (.ref pl) 4 u0 .none b), (b, instObj 601 bd), (bd, bioD h1 h2 t1 t2 ba z t), (ba, baObj (bs).toArray), (pl, listOf (vs).toArray n)] ++ keep)) (hap : ∀ q ∈ keep, q.1 ∉ ([sb, sd, b, bd, ba, pl] : List Addr)) (hk : cs.kind = .function) {q : Nat} (hz : z = ((q : Nat) : Int)) {ps : List (List UInt8)} {line R' : List UInt8} (hl : (10 : UInt8) ∉ line) (hll : line.length < 80000) (S : Strm bs q vs ps (line ++ 13 :: 10 :: R')) (hd : dp + 14 < recursionLimit) (hu : un + 8 * 14 < cLine)
    (h : ∀ h' t' bs' q' vs' ps' n' tq tv, Fr g L h' m → News g L h' ([(sb, instObj 934 sd), (sd, sbD k (.ref pl) 4 u0 .none b), (b, instObj 601 bd), (bd, bioD h1 h2 t1 t2 ba ((q' : Nat) : Int) tq), (ba, baObj (bs').toArray), (pl, listOf (vs').toArray n')] ++ keep) → Strm bs' q' vs' ps' R' → Q (.bytes line.toArray tv) { s with heap := h', toks := t' }) :
    wpC (model PySem.Challenge.rw_ez0337_01.row.prog w) (Ar dp un gd (envX cn cs L a ccd cl :: outer)) (call (.ref 903) [.ref sb] [("timeout", .ref 300)]) Q s := by
  subst hz
  refine useC (sbreadline_does w p loose mean mg mb k sb sd b bd ba pl h1 h2 t1 t2 u0 bs q t ps vs n line R' hl hll S) B F X N T hk (keepL := keep) (fun _ q => List.mem_append_left _ q) (fun q hq => ⟨List.mem_append_right _ hq, hap q hq⟩) (fun _ _ _ => trivial) hd hu ?_
  intro v₄ h₄ t₄ g₄ F₄ N₄ st₄ kp₄ st₄' post₄ bld
  obtain ⟨⟨tv, bb0, rfl, rfl⟩, bs', q', vs', ps', n', S₅, z', t', bb, vv, rfl, rfl, rfl, e1, e2, e3, e4, e5, e6⟩ := post₄
  have N₅ := bld [(sb, instObj 934 sd), (sd, sbD k (.ref pl) 4 u0 .none b), (b, instObj 601 bd), (bd, bioD h1 h2 t1 t2 ba ((q' : Nat) : Int) t'), (ba, baObj (bs').toArray), (pl, listOf (vs').toArray n')] (all6 ⟨e1, .inl (by k_mem)⟩ ⟨e2, .inl (by k_mem)⟩ ⟨e3, .inl (by k_mem)⟩ ⟨e4, .inl (by k_mem)⟩ ⟨e5, .inl (by k_mem)⟩ ⟨e6, .inl (by k_mem)⟩)
  exact h h₄ t₄ bs' q' vs' ps' n' t' tv F₄ (News.append N₅ N₄) S₅
theorem s6_read {Q : Value → Shared → Prop} (B : Below A₀ base outer g) (F : Fr g L s.heap m) (X : (Mine.frag.heap_1 w.params).In g) (T : Top p loose mean mg mb g) {keep : List (Addr × Obj)}
    (N : News g L s.heap ([(sb, instObj 934 sd), (sd, sbD k (.ref pl) 4 u0 .none b), (b, instObj 601 bd), (bd, bioD h1 h2 t1 t2 ba z t), (ba, baObj (bs).toArray), (pl, listOf (vs).toArray n)] ++ keep)) (hap : ∀ q ∈ keep, q.1 ∉ ([sb, sd, b, bd, ba, pl] : List Addr)) (hk : cs.kind = .function) {q : Nat} (hz : z = ((q : Nat) : Int)) {ps : List (List UInt8)} {pay R' : List UInt8} {zi : Int} {tl : Tok} (hzi : zi = ((pay.length : Nat) : Int)) (hll : pay.length < 80000) (S : Strm bs q vs ps (pay ++ 13 :: 10 :: R')) (hd : dp + 14 < recursionLimit) (hu : un + 8 * 14 < cLine)
    (h : ∀ h' t' bs' q' vs' ps' n' tq tv, Fr g L h' m → News g L h' ([(sb, instObj 934 sd), (sd, sbD k (.ref pl) 4 u0 .none b), (b, instObj 601 bd), (bd, bioD h1 h2 t1 t2 ba ((q' : Nat) : Int) tq), (ba, baObj (bs').toArray), (pl, listOf (vs').toArray n')] ++ keep) → Strm bs' q' vs' ps' R' → Q (.bytes pay.toArray tv) { s with heap := h', toks := t' }) :
    wpC (model PySem.Challenge.rw_ez0337_01.row.prog w) (Ar dp un gd (envX cn cs L a ccd cl :: outer)) (call (.ref 895) [.ref sb, .int zi tl] [("timeout", .ref 300)]) Q s := by
  subst hz
  subst hzi
  refine useC (sbread_does w p loose mean mg mb k sb sd b bd ba pl h1 h2 t1 t2 u0 bs q t ps vs n pay R' hll S tl) B F X N T hk (keepL := keep) (fun _ q => List.mem_append_left _ q) (fun q hq => ⟨List.mem_append_right _ hq, hap q hq⟩) (fun _ _ _ => trivial) hd hu ?_
  intro v₄ h₄ t₄ g₄ F₄ N₄ st₄ kp₄ st₄' post₄ bld
  obtain ⟨⟨tv, bb0, rfl, rfl⟩, bs', q', vs', ps', n', S₅, z', t', bb, vv, rfl, rfl, rfl, e1, e2, e3, e4, e5, e6⟩ := post₄
  have N₅ := bld [(sb, instObj 934 sd), (sd, sbD k (.ref pl) 4 u0 .none b), (b, instObj 601 bd), (bd, bioD h1 h2 t1 t2 ba ((q' : Nat) : Int) t'), (ba, baObj (bs').toArray), (pl, listOf (vs').toArray n')] (all6 ⟨e1, .inl (by k_mem)⟩ ⟨e2, .inl (by k_mem)⟩ ⟨e3, .inl (by k_mem)⟩ ⟨e4, .inl (by k_mem)⟩ ⟨e5, .inl (by k_mem)⟩ ⟨e6, .inl (by k_mem)⟩)
  exact h h₄ t₄ bs' q' vs' ps' n' t' tv F₄ (News.append N₅ N₄) S₅
theorem s6_purge {Q : Value → Shared → Prop} (B : Below A₀ base outer g) (F : Fr g L s.heap m) (X : (Mine.frag.heap_1 w.params).In g) (T : Top p loose mean mg mb g) {keep : List (Addr × Obj)}
    (N : News g L s.heap ([(sb, instObj 934 sd), (sd, sbD k (.ref pl) 4 u0 .none b), (b, instObj 601 bd), (bd, bioD h1 h2 t1 t2 ba z t), (ba, baObj (bs).toArray), (pl, listOf (vs).toArray n)] ++ keep)) (hap : ∀ q ∈ keep, q.1 ∉ ([sb, sd, b, bd, ba, pl] : List Addr)) (hk : cs.kind = .function) {q : Nat} (hz : z = ((q : Nat) : Int)) {ps : List (List UInt8)} {R' : List UInt8} (S : Strm bs q vs ps R') (hd : dp + 14 < recursionLimit) (hu : un + 8 * 14 < cLine)
    (h : ∀ h' t' bs' q' vs' ps' n' tq, Fr g L h' m → News g L h' ([(sb, instObj 934 sd), (sd, sbD k (.ref pl) 4 u0 .none b), (b, instObj 601 bd), (bd, bioD h1 h2 t1 t2 ba ((q' : Nat) : Int) tq), (ba, baObj (bs').toArray), (pl, listOf (vs').toArray n')] ++ keep) → Strm bs' q' vs' ps' R' → Q .none { s with heap := h', toks := t' }) :
    wpC (model PySem.Challenge.rw_ez0337_01.row.prog w) (Ar dp un gd (envX cn cs L a ccd cl :: outer)) (call (.ref 924) [.ref sb] []) Q s := by
  subst hz
  refine useC (sbpurge_does w p loose mean mg mb k sb sd b bd ba pl h1 h2 t1 t2 u0 bs q t ps vs n R' S) B F X N T hk (keepL := keep) (fun _ q => List.mem_append_left _ q) (fun q hq => ⟨List.mem_append_right _ hq, hap q hq⟩) (fun _ _ _ => trivial) hd hu ?_
  intro v₄ h₄ t₄ g₄ F₄ N₄ st₄ kp₄ st₄' post₄ bld
  obtain ⟨rfl, bs', q', vs', ps', n', S₅, z', t', bb, vv, rfl, rfl, rfl, e1, e2, e3, e4, e5, e6⟩ := post₄
  have N₅ := bld [(sb, instObj 934 sd), (sd, sbD k (.ref pl) 4 u0 .none b), (b, instObj 601 bd), (bd, bioD h1 h2 t1 t2 ba ((q' : Nat) : Int) t'), (ba, baObj (bs').toArray), (pl, listOf (vs').toArray n')] (all6 ⟨e1, .inl (by k_mem)⟩ ⟨e2, .inl (by k_mem)⟩ ⟨e3, .inl (by k_mem)⟩ ⟨e4, .inl (by k_mem)⟩ ⟨e5, .inl (by k_mem)⟩ ⟨e6, .inl (by k_mem)⟩)
  exact h h₄ t₄ bs' q' vs' ps' n' t' F₄ (News.append N₅ N₄) S₅
theorem s6_pos {Q E : Value → Shared → Prop} (B : Below A₀ base outer g) (F : Fr g L s.heap m) (X : (Mine.frag.heap_1 w.params).In g) (T : Top p loose mean mg mb g) {keep : List (Addr × Obj)}
    (N : News g L s.heap ([(sb, instObj 934 sd), (sd, sbD k (.ref pl) 4 u0 .none b), (b, instObj 601 bd), (bd, bioD h1 h2 t1 t2 ba z t), (ba, baObj (bs).toArray), (pl, listOf (vs).toArray n)] ++ keep)) (hap : ∀ q ∈ keep, q.1 ∉ ([sb, sd, b, bd, ba, pl] : List Addr)) (hk : cs.kind = .function) {q : Nat} (hz : z = ((q : Nat) : Int)) {ps : List (List UInt8)} {R' : List UInt8} (S : Strm bs q vs ps R') (hd : dp + 8 < recursionLimit) (hu : un + 8 * 8 < cLine)
    (h : ∀ h' t' tq tv, Fr g L h' m → News g L h' ([(sb, instObj 934 sd), (sd, sbD k (.ref pl) 4 u0 .none b), (b, instObj 601 bd), (bd, bioD h1 h2 t1 t2 ba ((q : Nat) : Int) tq), (ba, baObj (bs).toArray), (pl, listOf (vs).toArray n)] ++ keep) → Q (.int ((q : Nat) : Int) tv) { s with heap := h', toks := t' }) :
    wpAny (model PySem.Challenge.rw_ez0337_01.row.prog w) (Ar dp un gd (envX cn cs L a ccd cl :: outer)) (call (.ref 910) [.ref sb] []) Q E s := by
  subst hz
  refine use (sbpos_does w p loose mean mg mb k sb sd b bd ba pl h1 h2 t1 t2 u0 bs q t ps vs n R' S) B F X N T hk (keepL := keep) (fun _ q => List.mem_append_left _ q) (fun q hq => ⟨List.mem_append_right _ hq, hap q hq⟩) (fun _ _ _ => trivial) hd hu ?_
  intro v₄ h₄ t₄ g₄ F₄ N₄ st₄ kp₄ st₄' post₄ bld
  obtain ⟨⟨tv, zz, rfl, rfl⟩, z', t', bb, vv, rfl, rfl, rfl, e1, e2, e3, e4, e5, e6⟩ := post₄
  have N₅ := bld [(sb, instObj 934 sd), (sd, sbD k (.ref pl) 4 u0 .none b), (b, instObj 601 bd), (bd, bioD h1 h2 t1 t2 ba ((q : Nat) : Int) t'), (ba, baObj (bs).toArray), (pl, listOf (vs).toArray n)] (all6 ⟨e1, .inl (by k_mem)⟩ ⟨e2, .inl (by k_mem)⟩ ⟨e3, .inl (by k_mem)⟩ ⟨e4, .inl (by k_mem)⟩ ⟨e5, .inl (by k_mem)⟩ ⟨e6, .inl (by k_mem)⟩)
  exact h h₄ t₄ t' tv F₄ (News.append N₅ N₄)
end
end Mine
end EzCall3
section EzCon
open PySem PySem.W PyProof.Rows PySem.Calls
namespace Mine
set_option maxRecDepth 100000
set_option maxHeartbeats 1000000
local macro_rules | `(tactic| k_in) => `(tactic| first | k_in_fast | exact Frag.In.keeps (by k_asm) (Fr.keep (by k_asm)))
local macro_rules | `(tactic| k_room) => `(tactic| ktr_room)
local macro_rules | `(tactic| k_units) => `(tactic| ktr_units)
abbrev parD (k : K4) (u : Tok) (enc sock buf : Value) : Obj :=
  dictOf [⟨k.h1, .str "socket_read_size" k.t1, .int 4 u⟩, ⟨k.h2, .str "encoder" k.t2, enc⟩, ⟨k.h3, .str "_sock" k.t3, sock⟩, ⟨k.h4, .str "_buffer" k.t4, buf⟩] 4
abbrev encOb (de : Bool) (ed : Addr) (t1 t2 : Tok) : Obj := { cls := .ref 1113, dict := some ed, data := .plain, slots := #[some (.bool de), some (.str "utf-8" t1), some (.str "strict" t2)] }
section
variable {w : World} {p : Program} {loose : List PySem.Str} {mean : ExcName → Option Value} {mg mb : PySem.Str → Option Value}
variable {A₀ : Around} {base g : Heap} {outer : List Env} {s : Shared} {L a : Addr} {m : PySem.Str → Option Value} {cn : PySem.Str} {cs : Scope} {ccd : Value} {cl : List (PySem.Str × Addr)} {dp un : Nat} {gd : Option (List Code)} {news : List (Addr × Obj)}
local macro_rules | `(tactic| k_fill) => `(tactic| (k_with_none))
theorem sb_make {Q : Value → Shared → Prop} {pl : Addr} {u : Tok} (B : Below A₀ base outer g) (F : Fr g L s.heap m) (X : (Mine.frag.heap_1 w.params).In g) (T : Top p loose mean mg mb g)
    (N : News g L s.heap news) (hk : cs.kind = .function) (hd : dp + 14 < recursionLimit) (hu : un + 8 * 14 < cLine)
    (h : ∀ k sb sd b bd ba h1 h2 t1 t2 t h' tk, Fr g L h' m → News g L h' ([(sb, instObj 934 sd), (sd, sbD k (.ref pl) 4 u .none b), (b, instObj 601 bd), (bd, bioD h1 h2 t1 t2 ba 0 t), (ba, baObj #[])] ++ news) → (∀ q ∈ news, @Ne Nat sb q.1 ∧ @Ne Nat sd q.1 ∧ @Ne Nat b q.1 ∧ @Ne Nat bd q.1 ∧ @Ne Nat ba q.1) → Q (.ref sb) { s with heap := h', toks := tk }) :
    wpC (model PySem.Challenge.rw_ez0337_01.row.prog w) (Ar dp un gd (envX cn cs L a ccd cl :: outer)) (call (.ref 934) [.ref pl, .int 4 u, .none]) Q s := by
  revert X
  k_fill
  intro X
  have KX := X.keeps F.keep
  refine C_call (C_make_K (fI := 864) F N KX (by k_is) (by k_is) (by k_is) ?_)
  intro x dx h' F' N' l1 l2
  rw [ar_type_call]
  have hlt : ∀ q ∈ news, @Ne Nat q.1 x ∧ @Ne Nat q.1 dx := fun q hq => by
    have h1 : @LT.lt Nat _ q.1 dx := l1 q hq
    have h2 : @LT.lt Nat _ dx x := l2
    exact ⟨by omega, by omega⟩
  refine useC (sbinit_does w p loose mean mg mb x dx pl (by have h2 : @LT.lt Nat _ dx x := l2; omega) u) B F' X N' T hk (keepL := news) (all2 (by k_mem) (by k_mem)) (fun q hq => ⟨List.mem_cons_of_mem _ (List.mem_cons_of_mem _ hq), ?_⟩) (fun _ _ _ => trivial) ?hd ?hu ?_
  case hd => show dp + 1 + 12 < recursionLimit; omega
  case hu => show un + 1 + 8 * 12 < cLine; omega
  · have z := hlt q hq
    intro hm
    simp only [List.map_cons, List.map_nil, List.mem_cons, List.not_mem_nil, or_false] at hm
    exact hm.elim z.1 z.2
  intro v₄ h₄ t₄ g₄ F₄ N₄ st₄ kp₄ st₄' post₄ bld
  obtain ⟨rfl, k, b, bd, ba, h1, h2, t1, t2, t, e1, e2, e3, e4, e5, f3, f4, f5⟩ := post₄
  refine ⟨rfl, _, rfl, h k x dx b bd ba h1 h2 t1 t2 t h₄ t₄ F₄ ?_ fun q hq => ⟨Ne.symm (hlt q hq).1, Ne.symm (hlt q hq).2, ne_of_none f3 (kp₄ q hq), ne_of_none f4 (kp₄ q hq), ne_of_none f5 (kp₄ q hq)⟩⟩
  refine News.append ?_ N₄
  exact News.append (bld [(x, instObj 934 dx), (dx, sbD k (.ref pl) 4 u .none b)] (all2 ⟨e1, .inl (by k_mem)⟩ ⟨e2, .inl (by k_mem)⟩)) (bld [(b, instObj 601 bd), (bd, bioD h1 h2 t1 t2 ba 0 t), (ba, baObj #[])] (all3 ⟨e3, .inr f3⟩ ⟨e4, .inr f4⟩ ⟨e5, .inr f5⟩))
end
local macro_rules | `(tactic| k_ne) => `(tactic| (refine neN ?_; (try dsimp only); first | assumption | exact Ne.symm (by assumption) | omega))
local macro_rules | `(tactic| k_fill) => `(tactic| (k_with_none))
theorem onconn_does (w : World) (p : Program) (loose : List Str) (mean : ExcName → Option Value) (mg mb : Str → Option Value) (k : K4) (u : Tok) (pp pd ct pl en : Addr) (hpd : @Ne Nat pp pd) :
    DoesC (Mine.frag.heap_1 w.params) PySem.Challenge.rw_ez0337_01.row.prog w p loose mean mg mb 20 1033 [.ref pp, .ref ct] [] [(pp, instObj 1077 pd), (pd, parD k u .none .none .none), (ct, tupOb [.ref pl, .none, .ref en])] (fun _ => True) (fun g v h' => v = .none ∧ ∃ k' sb sd b bd ba h1 h2 t1 t2 t, h'.get? pp = some (instObj 1077 pd) ∧ h'.get? pd = some (parD k u (.ref en) (.ref pl) (.ref sb)) ∧ (∀ q ∈ [(sb, instObj 934 sd), (sd, sbD k' (.ref pl) 4 u .none b), (b, instObj 601 bd), (bd, bioD h1 h2 t1 t2 ba 0 t), (ba, baObj #[])], h'.get? q.1 = some q.2 ∧ g.get? q.1 = none)) := by
  k_fill
  intro dp un gd outer base g A₀ s R B st X T hW hsz hPre hd hu kont
  refine' enterC st X T hW hsz ?ho ?hcd ?hroom ?hbind ?hloc ?_ ?c2 ?c3 ?c4 ?c5
  case ho => k_is
  case hcd => k_is
  case hroom => omega
  case hbind => first | exact BindsTo.of_eq rfl | exact binds_K (X.keeps fun b o e => st b o e) rfl (by k_is) rfl rfl rfl
  case hloc => exact locs rfl
  case c2 => rfl
  case c3 => rfl
  case c4 => rfl
  case c5 => decide
  intro L' h₁ F N hlt
  (try k_lt hlt)
  dsimp only
  have n1 : @Ne Nat pd ct := ne_of_objs (N.get (by k_mem)) (N.get (by k_mem)) (.inl (by simp))
  refine C_consK ?_
  k_steps
  all_goals (try dsimp only)
  refine C_cons (C_Assign_Attr (C_Call_Name ?_))
  k_steps
  refine C_callK (K := Mine.frag.heap_1 w.params) ?kK ?_
  case kK => k_is
  k_steps
  rename Fr g L' _ _ => kF
  rename News g L' _ _ => kN
  (try dsimp only [List.cons_append, List.nil_append])
  refine' sb_make B kF X T kN rfl ?hd ?hu ?_
  case hd => show dp + 1 + 14 < recursionLimit; omega
  case hu => show un + 3 + 8 * 14 < cLine; omega
  intro k' sb sd b bd ba h1 h2 t1 t2 t h₄ t₄ F₄ N₄ hne
  obtain ⟨a1, a2, a3, a4, a5⟩ := hne (pd, _) (by k_mem)
  obtain ⟨c1, c2, c3, c4, c5⟩ := hne (pp, _) (by k_mem)
  obtain ⟨d1, d2, d3, d4, d5⟩ := hne (ct, _) (by k_mem)
  dsimp only [List.cons_append, List.nil_append] at N₄ a1 a2 a3 a4 a5 c1 c2 c3 c4 c5 d1 d2 d3 d4 d5
  clear kF kN hne
  k_steps
  all_goals (try dsimp only)
  refine C_consK ?_
  k_steps
  all_goals (try dsimp only)
  refine C_nil ?_
  (try dsimp only)
  rename News g L' _ _ => kN7
  refine kont _ _ _ (Fr.keep (by assumption)) ⟨rfl, k', sb, sd, b, bd, ba, h1, h2, t1, t2, t, kN7.get (by k_mem), kN7.get (by k_mem), fun q hq => ?_⟩
  have z := kN7 q (List.mem_append_left _ hq)
  exact ⟨z.1, z.2.2⟩

end Mine
end EzCon
section EzRr0
open PySem PySem.W PyProof.Rows PySem.Calls
namespace Mine
set_option maxRecDepth 100000
set_option maxHeartbeats 1000000
abbrev rrPost (k kp : K4) (sb sd b bd ba pl pp pd en ed : Addr) (h1 h2 : Int) (t1 t2 u0 u te1 te2 : Tok) (dis de : Bool) (V : Vl) (R' : List UInt8) (g : Heap) (v : Value) (h' : Heap) : Prop :=
  ∃ (T : List (Addr × Obj)) (bs' : List UInt8) (q' : Nat) (vs' : List Value) (ps' : List (List UInt8)) (n' : Nat) (tq' : Tok), (∀ x ∈ T, h'.get? x.1 = some x.2 ∧ g.get? x.1 = none ∧ x.1 ∉ ([sb, sd, b, bd, ba, pl, pp, pd, en, ed] : List Addr)) ∧ Got (fun a o => (a, o) ∈ T) (!dis && de) V v ∧ Strm bs' q' vs' ps' R' ∧ ∀ x ∈ [(sb, instObj 934 sd), (sd, sbD k (.ref pl) 4 u0 .none b), (b, instObj 601 bd), (bd, bioD h1 h2 t1 t2 ba ((q' : Nat) : Int) tq'), (ba, baObj (bs').toArray), (pl, listOf (vs').toArray n')] ++ [(pp, instObj 1077 pd), (pd, parD kp u (.ref en) (.ref pl) (.ref sb)), (en, encOb de ed te1 te2), (ed, dictOf [] 0)], h'.get? x.1 = some x.2
/-- the contract of _read_response at a value -/
def RR (w : World) (p : Program) (loose : List Str) (mean : ExcName → Option Value) (mg mb : Str → Option Value) (k kp : K4) (sb sd b bd ba pl pp pd en ed : Addr) (h1 h2 : Int) (t1 t2 u0 u te1 te2 : Tok) (dis de : Bool) (nn : Nat) (V : Vl) : Prop :=
  ∀ (bs : List UInt8) (q : Nat) (t : Tok) (ps : List (List UInt8)) (vs : List Value) (n : Nat) (R' : List UInt8), Strm bs q vs ps (V.wr ++ R') →
    DoesC (Mine.frag.heap_1 w.params) PySem.Challenge.rw_ez0337_01.row.prog w p loose mean mg mb nn 1074 [.ref pp] [("disable_decoding", .bool dis), ("timeout", .ref 300)] ([(sb, instObj 934 sd), (sd, sbD k (.ref pl) 4 u0 .none b), (b, instObj 601 bd), (bd, bioD h1 h2 t1 t2 ba ((q : Nat) : Int) t), (ba, baObj (bs).toArray), (pl, listOf (vs).toArray n)] ++ [(pp, instObj 1077 pd), (pd, parD kp u (.ref en) (.ref pl) (.ref sb)), (en, encOb de ed te1 te2), (ed, dictOf [] 0)]) (fun _ => True) (rrPost k kp sb sd b bd ba pl pp pd en ed h1 h2 t1 t2 u0 u te1 te2 dis de V R')
def Apart (sb sd b bd ba pl pp pd en ed : Addr) : Prop := ∀ x ∈ ([pp, pd, en, ed] : List Addr), x ∉ ([sb, sd, b, bd, ba, pl] : List Addr)

theorem rr_apart {k kp : K4} {sb sd b bd ba pl pp pd en ed : Addr} {h1 h2 : Int} {t1 t2 u0 u te1 te2 t : Tok} {de : Bool} {bs : List UInt8} {vs : List Value} {n : Nat} {z : Int} (hA : Apart sb sd b bd ba pl pp pd en ed) {L' : Addr} {o1 o2 o3 : Obj}
    (hlt : ∀ x ∈ ([(sb, instObj 934 sd), (sd, sbD k (.ref pl) 4 u0 .none b), (b, instObj 601 bd), (bd, bioD h1 h2 t1 t2 ba z t), (ba, baObj (bs).toArray), (pl, listOf (vs).toArray n)] ++ [(pp, instObj 1077 pd), (pd, parD kp u (.ref en) (.ref pl) (.ref sb)), (en, encOb de ed te1 te2), (ed, dictOf [] 0)] : List (Addr × Obj)), @LT.lt Nat _ x.1 L') : ∀ x ∈ [(L' + 1 + 1 + 1, o1), (L' + 1 + 1, o2), (L' + 1, o3)] ++ [(pp, instObj 1077 pd), (pd, parD kp u (.ref en) (.ref pl) (.ref sb)), (en, encOb de ed te1 te2), (ed, dictOf [] 0)], x.1 ∉ ([sb, sd, b, bd, ba, pl] : List Addr) := by
  have hl : ∀ x ∈ ([sb, sd, b, bd, ba, pl] : List Addr), @LT.lt Nat _ x L' := by
    intro x hx
    simp only [List.mem_cons, List.not_mem_nil, or_false] at hx
    rcases hx with rfl | rfl | rfl | rfl | rfl | rfl
    · exact hlt (_, _) (.head _)
    · exact hlt (_, _) (.tail _ (.head _))
    · exact hlt (_, _) (.tail _ (.tail _ (.head _)))
    · exact hlt (_, _) (.tail _ (.tail _ (.tail _ (.head _))))
    · exact hlt (_, _) (.tail _ (.tail _ (.tail _ (.tail _ (.head _)))))
    · exact hlt (_, _) (.tail _ (.tail _ (.tail _ (.tail _ (.tail _ (.head _))))))
  have big : ∀ y : Nat, L' < y → y ∉ ([sb, sd, b, bd, ba, pl] : List Addr) := fun y hy hm => Nat.lt_irrefl _ (Nat.lt_trans hy (hl y hm))
  intro x hx
  simp only [List.cons_append, List.nil_append, List.mem_cons, List.not_mem_nil, or_false] at hx
  rcases hx with rfl | rfl | rfl | rfl | rfl | rfl | rfl
  · exact big _ (Nat.lt_succ_of_lt (Nat.lt_succ_of_lt (Nat.lt_succ_self L')))
  · exact big _ (Nat.lt_succ_of_lt (Nat.lt_succ_self L'))
  · exact big _ (Nat.lt_succ_self L')
  · exact hA _ (.head _)
  · exact hA _ (.tail _ (.head _))
  · exact hA _ (.tail _ (.tail _ (.head _)))
  · exact hA _ (.tail _ (.tail _ (.tail _ (.head _))))
theorem sub_mid {α : Type} {a c : List α} (b : List α) : ∀ x ∈ a ++ c, x ∈ a ++ (b ++ c) := fun x hx => (List.mem_append.mp hx).elim (fun h => List.mem_append_left _ h) fun h => List.mem_append_right _ (List.mem_append_right _ h)
theorem range_small {n : Nat} (h : n < 4) : Builtin.Range.small 0 n 1 = true ∧ Builtin.Range.rangeSize 0 n 1 = ((n : Nat) : Int) := by
  have : n = 0 ∨ n = 1 ∨ n = 2 ∨ n = 3 := by omega
  rcases this with rfl | rfl | rfl | rfl <;> decide +kernel
def rrJ (k kp : K4) (sb sd b bd ba pl pp pd en ed : Addr) (h1 h2 : Int) (t1 t2 u0 u te1 te2 : Tok) (dis de : Bool) (L' : Addr) (o1 o2 o3 : Obj) (R' : List UInt8) (xs : List Vl) (i : Nat) (ys : List Value) (news : List (Addr × Obj)) : Prop :=
  ys.length = i ∧ ∃ (T : List (Addr × Obj)) (bs' : List UInt8) (q' : Nat) (vs' : List Value) (ps' : List (List UInt8)) (n' : Nat) (tq' : Tok), (∀ x ∈ T, x.1 ∉ ([sb, sd, b, bd, ba, pl, pp, pd, en, ed] : List Addr)) ∧ Gots (fun a o => (a, o) ∈ T) (!dis && de) (xs.take i) ys ∧
    Strm bs' q' vs' ps' (wrs (xs.drop i) ++ R') ∧ news = [(sb, instObj 934 sd), (sd, sbD k (.ref pl) 4 u0 .none b), (b, instObj 601 bd), (bd, bioD h1 h2 t1 t2 ba ((q' : Nat) : Int) tq'), (ba, baObj (bs').toArray), (pl, listOf (vs').toArray n')] ++ ([(L' + 1 + 1 + 1, o1), (L' + 1 + 1, o2), (L' + 1, o3)] ++ ([(pp, instObj 1077 pd), (pd, parD kp u (.ref en) (.ref pl) (.ref sb)), (en, encOb de ed te1 te2), (ed, dictOf [] 0)] ++ T))
theorem cut_one {c : UInt8} {l : List UInt8} : cut (c :: l) none (some 1) = [c] := by
  unfold cut
  simp only [Option.elim_none, Option.elim_some]
  have e : clipAt (c :: l).length 1 = 1 := by
    rw [KBc.clip_lit]; simp
  rw [e]; simp
theorem cut_rest {c : UInt8} {l : List UInt8} : cut (c :: l) (some 1) none = l := by
  unfold cut
  simp only [Option.elim_none, Option.elim_some]
  have e : clipAt (c :: l).length 1 = 1 := by
    rw [KBc.clip_lit]; simp
  rw [e]; simp
section
variable {prog : Program} {w : World} {A : Around} {E : Value → Shared → Prop} {s : Shared} {value slice : PySem.Expr} {b c r : List UInt8} {t u' : Tok} {h₀ : Heap} {L : Addr} {m : PySem.Str → Option Value} {news : List (Addr × Obj)} {l u : Value} {lo hi : Option Int} {Q : Value → Shared → Prop}
theorem by_eqR {x : Bool} (hr : (b == c) = x) (h : Q (.bool x) s) : wpAny (model prog w) A (compareOp .Eq (.bytes b.toArray t) (.bytes c.toArray u')) Q E s := by
  refine by_eq ?_
  rw [hr]; exact h
theorem by_sliceR (hF : Fr h₀ L s.heap m) (hN : News h₀ L s.heap news) (hl : IsPart l lo) (hu : IsPart u hi) (hz : b.length ≤ 16777216) (hr : cut b lo hi = r)
    (h : ∀ h' t' k, Fr h₀ L h' m → News h₀ L h' news → Q (.bytes r.toArray t') { s with heap := h', toks := k })
    (hs : subscripted slice false (.bytes b.toArray t) (.ref s.heap.objs.size) = operate [.ref s.heap.objs.size, .bytes b.toArray t] (getItem (.bytes b.toArray t) (.ref s.heap.objs.size)) := by with_unfolding_all rfl)
    (ht : ∀ r, letTemporaryGo value (.bytes b.toArray t) r = pure () := by intro _; with_unfolding_all rfl) :
    wpAny (model prog w) A (subscriptTail value slice (.bytes b.toArray t) (.ref s.heap.objs.size)) Q E { s with heap := s.heap.push { cls := .type "slice", data := .fields #[l, u, .none] } } :=
  by_slice hF hN hl hu hz (by rw [hr]; exact h) hs ht
end
end Mine
end EzRr0
section EzComp
open PySem PySem.W PyProof.Rows PySem.Calls
set_option maxRecDepth 100000
namespace Mine
section
variable {M : Model} {A : Around} {s : Shared} {env : Env}
theorem C_standIf {α : Type} {c : Prop} [Decidable c] {pos : Pos} {k : PUnit → Sem α} {Q : α → Shared → Prop} (h : wpC M A (k ()) Q s) :
    wpC M A (if c then (standAt pos >>= k) else k ()) Q s := by
  split
  · exact C_bind (C_standAt h)
  · exact h
theorem C_comprehension_use {e : Expr} {scope : Scope} {pos : Pos} {newAcc first : Sem Value} {g : Comprehension} {gs : List Comprehension} {cl : List (Str × Addr)} {u : Value → Sem Unit} {Q : Value → Shared → Prop}
    (hcl : clausesOf e = g :: gs) (hs : ∀ x, foldedSetIterable g.iter env x = pure x) (hclos : closureFor scope env = pure cl)
    (hkind : scope.kind = .function) (hnames : ∀ x ∈ scope.names, x.2 = .local → scope.names.lookup x.1 = some .local)
    (h : wpAny M A first (fun x s₁ => wpAny M A (pyIter x) (fun it s₂ => wpAny M A newAcc (fun acc s₃ =>
      wpAny M A (newFunctionEnv scope env.globals cl [] env.qual none .none (some env)) (fun cenv s₄ =>
        codeC M A (.compStart e 0 it acc { cenv with scope := relabel scope env }) (fun r s' => ∃ f, r = .ok f ∧ wpAny M A (u acc) (fun _ s'' => ∃ m, s''.heap.Ns cenv.locals m ∧ ∀ h', Heap.SameBut cenv.locals s''.heap h' → Q .none { s'' with heap := h' }) noE s') s₄) noE s₃) noE s₂) noE s₁) noE s) :
    wpC M A (comprehension e scope env pos newAcc false first (some u)) Q s := by
  unfold comprehension
  rw [hclos, hcl]
  refine C_bindK (wpAny_mono h (fun x s₁ h₁ => ?_) fun _ _ h' => h')
  refine C_bind (C_standAt ?_)
  dsimp only
  rw [hs x]
  refine C_bind (C_pure ?_)
  refine C_bind (C_holding (C_of (wpAny_mono h₁ (fun it s₂ h₂ => ?_) fun _ _ h' => h')))
  refine C_standIf ?_
  refine C_bindK (wpAny_mono h₂ (fun acc s₃ h₃ => ?_) fun _ _ h' => h')
  refine C_bind (C_pure ?_)
  refine C_bindK (wpAny_mono h₃ (fun cenv s₄ h₄ => ?_) fun _ _ h' => h')
  have hv : ∀ x ∈ (scope.names.filter fun x => (x.2 == .local || x.2 == .cell) && x.1 != (".0" : Str)).reverse, x.2 = .local →
      Env.kindOf { cenv with scope := relabel scope env } x.1 = some .local := fun x hx hl => lookup_relabel_local (hnames x (List.mem_filter.mp (List.mem_reverse.mp hx)).1 hl)
  have hv' : ∀ x ∈ (scope.names.filter fun x => (x.2 == .local || x.2 == .cell) && x.1 != (".0" : Str)).reverse.drop 1 ++ (scope.names.filter fun x => (x.2 == .local || x.2 == .cell) && x.1 != (".0" : Str)).reverse.take 1,
      x.2 = .local → Env.kindOf { cenv with scope := relabel scope env } x.1 = some .local := fun x hx hl => by
    rcases List.mem_append.mp hx with h1 | h1
    · exact hv x (List.mem_of_mem_drop h1) hl
    · exact hv x (List.mem_of_mem_take h1) hl
  refine C_holding (C_bind (C_attempt (C_holding (C_run ?_))))
  rw [mark_none]
  refine codeC_mono h₄ fun r s' hr => ?_
  obtain ⟨f, rfl, hr⟩ := hr
  refine ⟨f, rfl, ?_⟩
  dsimp only
  refine C_bind (C_rule (C_bind (C_holding (C_of (wpAny_mono hr (fun _ s'' hr' => ?_) fun _ _ h' => h')))))
  obtain ⟨m, hn, hr'⟩ := hr'
  exact C_bindK (wpAny_comp_letGo (cenv := { cenv with scope := relabel scope env }) hkind _ s'' m hv' hn fun h' m' _ hs' => C_pure (hr' h' hs'))
theorem codeC_compStart {prog : Program} {w : World} {elt target iter : Expr} {ifs : List Expr} {scope : Scope} {pos : Pos} {it acc : Value} {cenv : Env} {R : Result → Shared → Prop}
    (hl : codeC (model prog w) A (.compLoop (.ListComp elt [⟨target, iter, ifs, 0⟩] scope pos) 0 it acc cenv) R s)
    (hI : wpAny (model prog w) A (pyIter it) (fun it' s' => codeC (model prog w) A (.compLoop (.ListComp elt [⟨target, iter, ifs, 0⟩] scope pos) 0 it' acc cenv) R s') noE s) :
    codeC (model prog w) A (.compStart (.ListComp elt [⟨target, iter, ifs, 0⟩] scope pos) 0 it acc cenv) R s := by
  refine codeC_tree rfl ?_
  rw [Around.under_of_weight rfl]
  show wpC _ _ ((compStart (.ListComp elt [⟨target, iter, ifs, 0⟩] scope pos) 0 it acc cenv).onRaise (fun x => do noteFrame x cenv; standAt theWindowsPlace)) _ s
  refine C_onRaise (C_of ?_)
  unfold compStart
  show wpAny _ _ (ask >>= _) _ _ s
  refine wpAny_bind (wpAny_askSetting (wpAny_ite ?_))
  split
  · first
      | exact wpAny_bind (wpAny_pure (wpAny_pure (And.intro rfl hl)))
      | exact wpAny_pure (And.intro rfl hl)
  · refine wpAny_bind (wpAny_rule ?_)
    first
      | exact wpAny_bind (wpAny_standAt (wpAny_bind (wpAny_mono hI (fun it' s' h' => wpAny_pure (And.intro rfl h')) fun _ _ x => x)))
      | (show wpAny _ _ (standAt iter.pos >>= _) _ _ s; exact wpAny_bind (wpAny_standAt (wpAny_bind (wpAny_mono hI (fun it' s' h' => wpAny_pure (And.intro rfl h')) fun _ _ x => x))))
/-- the list that a comprehension over a range makes, stored in a local name -/
theorem C_Assign_LC {prog : Program} {w : World} {h₀ : Heap} {L : Addr} {m : Str → Option Value} {elt iter : Expr} {x y : Str} {px py : Pos} {scope : Scope} {cl : List (Str × Addr)} {pos spos : Pos} {Q : Flow → Shared → Prop} (n : Nat) (J : Nat → List Value → List (Addr × Obj) → Prop)
    (_F₀ : Fr h₀ L s.heap m) (hLe : env.locals = L) (hh : A.handled = none) (hsz : n ≤ sizeLine)
    (hsw : swapsWith (.ListComp elt [⟨.Name x px, iter, [], 0⟩] scope pos) (some (.Name y py)) spos.line env = pure true)
    (hclos : closureFor scope env = pure cl) (hcell : ∀ z ∈ scope.names, z.2 ≠ .cell) (hkind : scope.kind = .function)
    (hnames : ∀ z ∈ scope.names, z.2 = .local → scope.names.lookup z.1 = some .local) (hx : scope.names.lookup x = some .local)
    (hy : env.kindOf y = some .local) (hp : (env.scope.kind == .class || (env.scope.kind == .module && env.locals != env.globals)) = false)
    (h : wpAny (model prog w) A (eval iter env) (fun xv s₁ => ∃ r t u v news, xv = .ref r ∧ Fr h₀ L s₁.heap m ∧ News h₀ L s₁.heap news ∧ IsRange s₁.heap r 0 n 1 t u v ∧ J 0 [] news ∧
      (∀ i ys news' v I oI C oC D m₂ h tk, i < n → J i ys news' → LCg.NsObj oC m₂ → m₂ x = some v → Fr h₀ L h m → News h₀ L h ((I, oI) :: (C, oC) :: (D, LCg.lst ys) :: news') → LCg.Off3 I C D news' → @Ne Nat I C → @Ne Nat I D → @Ne Nat C D →
        wpC (model prog w) A (eval elt (compEnvC scope cl C env)) (fun y s₂ => ∃ h' tk' news'', s₂ = { s₁ with heap := h', toks := tk' } ∧ Fr h₀ L h' m ∧ News h₀ L h' ((I, oI) :: (C, oC) :: (D, LCg.lst ys) :: news'') ∧ LCg.Off3 I C D news'' ∧ J (i + 1) (ys ++ [y]) news'') { s₁ with heap := h, toks := tk }) ∧
      (∀ D h tk ys news', J n ys news' → Fr h₀ L h (fun z => if z = y then some (.ref D) else m z) → News h₀ L h ((D, LCg.lst ys) :: news') → LCg.Off1 D news' → Q .next { s₁ with heap := h, toks := tk })) noE s)
    (hJ : ∀ i ys news, J i ys news → ys.length = i) (hsm : Builtin.Range.small 0 n 1 = true) (hn : Builtin.Range.rangeSize 0 n 1 = ((n : Nat) : Int))
    (hs : ∀ x, foldedSetIterable iter env x = pure x := by intro _; rfl) :
    wpC (model prog w) A (exec (.Assign [.Name y py] (.ListComp elt [⟨.Name x px, iter, [], 0⟩] scope pos) spos) env) Q s := by
  subst hLe
  rw [exec_Assign_Name_used _ _ _ _ hsw]
  refine C_bind (C_standAt (C_bind ?_))
  show wpC _ A (do let _ ← comprehension (.ListComp elt [⟨.Name x px, iter, [], 0⟩] scope pos) scope env _ (newList []) false (eval iter env) (some (assign (.Name y py) env))) _ s
  refine C_bind (C_mono (C_comprehension_use (Q := fun _ s' => Q .next s') rfl hs hclos hkind hnames
    (wpAny_mono h (fun xv s₁ h₁ => ?_) fun _ _ e => e)) (fun _ s' hq => C_pure (C_pure hq)))
  obtain ⟨r, t, u, v, news, rfl, F, N, hr, hJ0, turn, fin⟩ := h₁
  refine wpAny_pyIter_range hr hsm ?_
  rw [hn]
  have up1 : ∀ b o, s₁.heap.get? b = some o → (s₁.heap.push { cls := .type "range_iterator", data := .fields #[rawInt 0, rawInt ((n : Nat) : Int), rawInt 1] }).get? b = some o := fun b o e => Heap.get?_push_of_some _ e
  have hI0 : (s₁.heap.push { cls := .type "range_iterator", data := .fields #[rawInt 0, rawInt ((n : Nat) : Int), rawInt 1] }).get? s₁.heap.objs.size = some { cls := .type "range_iterator", data := .fields #[rawInt 0, rawInt ((n : Nat) : Int), rawInt 1] } := Heap.get?_push_size _ rfl
  have hsI : (s₁.heap.push { cls := .type "range_iterator", data := .fields #[rawInt 0, rawInt ((n : Nat) : Int), rawInt 1] }).objs.size = s₁.heap.objs.size + 1 := Heap.size_push ..
  generalize hHr : s₁.heap.push { cls := .type "range_iterator", data := .fields #[rawInt 0, rawInt ((n : Nat) : Int), rawInt 1] } = Hr at up1 hI0 hsI ⊢
  refine wpAny_newObj_type (wpAny_newFunctionEnv hcell (by intro y hy; simp at hy) (fun h₁ hns₁ hsb₁ => ?_) hkind)
  dsimp only at hns₁ hsb₁ ⊢
  generalize hH2 : Hr.push { cls := .type "list", dict := none, data := .seq ([] : List Value).toArray } = H2 at hns₁ hsb₁ ⊢
  have F1 : Fr h₀ env.locals Hr m := F.keeps up1
  have N1 : News h₀ env.locals Hr news := N.grown up1
  obtain ⟨I, hI⟩ : ∃ I : Addr, I = s₁.heap.objs.size := ⟨_, rfl⟩
  rw [← hI] at hI0 hsI ⊢
  have hst0 : IsRangeIter Hr I (0 + ((0 : Nat) : Int) * 1) ((n : Int) - ((0 : Nat) : Int)) 1 := by
    show IsRangeIter _ _ _ _ _; simpa using hI0
  have W := LCg.range_walks (prog := prog) (w := w) (A := A) (I := I) hh 0 n
  have hC : H2.objs.size = Hr.objs.size + 1 := by rw [← hH2, Heap.size_push]
  have hDC : Hr.objs.size ≠ H2.objs.size := by rw [hC]; exact Nat.ne_of_lt (Nat.lt_succ_self _)
  have below : ∀ b, b < Hr.objs.size → b ≠ H2.objs.size ∧ b ≠ Hr.objs.size := fun b hb => ⟨by rw [hC]; exact Nat.ne_of_lt (Nat.lt_succ_of_lt hb), Nat.ne_of_lt hb⟩
  have hIlt : I < Hr.objs.size := by rw [hsI]; exact Nat.lt_succ_self _
  have old : ∀ b o, Hr.get? b = some o → h₁.get? b = some o := fun b o e => hsb₁.extBut b o (below b (Heap.lt_size e)).1 (Heap.get?_push_of_some _ (hH2 ▸ Heap.get?_push_of_some _ e))
  have hacc : h₁.get? Hr.objs.size = some (LCg.lst []) := hsb₁.extBut _ _ hDC (Heap.get?_push_of_some _ (hH2 ▸ Heap.get?_push_size _ rfl))
  have hst₁ : IsRangeIter h₁ I (0 + ((0 : Nat) : Int) * 1) ((n : Int) - ((0 : Nat) : Int)) 1 := old _ _ hst0
  have fresh : ∀ a, Hr.objs.size ≤ a → Hr.get? a = none := fun a ha => by
    cases e : Hr.get? a with
    | none => rfl
    | some o' => exact absurd (Heap.lt_size e) (Nat.not_lt.mpr ha)
  have fresh₀ : ∀ a, Hr.objs.size ≤ a → h₀.get? a = none := fun a ha => by
    cases e : h₀.get? a with
    | none => rfl
    | some o' => have := F1.keep a o' e; rw [fresh a ha] at this; cases this
  have hI₀ : h₀.get? I = none := by
    cases e : h₀.get? I with
    | none => rfl
    | some o' => exact absurd (Heap.lt_size (F.keep I o' e)) (by rw [hI]; exact Nat.lt_irrefl _)
  have hD₀ : h₀.get? Hr.objs.size = none := fresh₀ _ (Nat.le_refl _)
  have hC₀ : h₀.get? H2.objs.size = none := fresh₀ _ (by rw [hC]; exact Nat.le_succ _)
  have hLlt : env.locals < Hr.objs.size := F1.ns.lt
  have hDL : Hr.objs.size ≠ env.locals := Ne.symm (below _ hLlt).2
  have hCL : H2.objs.size ≠ env.locals := Ne.symm (below _ hLlt).1
  have hIL : env.locals ≠ I := by have := F.ns.lt; rw [hI]; exact Nat.ne_of_lt this
  have hCI : I ≠ H2.objs.size := (below I hIlt).1
  have hDI : I ≠ Hr.objs.size := (below I hIlt).2
  have offI : ∀ p ∈ news, p.1 ≠ I := fun p hp => by rw [hI]; exact Nat.ne_of_lt (Heap.lt_size (N p hp).1)
  have off₀ : LCg.Off3 I H2.objs.size Hr.objs.size news := LCg.Off3.of fun p hp => ⟨offI p hp, (below _ (Heap.lt_size (N1 p hp).1)).1, (below _ (Heap.lt_size (N1 p hp).1)).2⟩
  have loop : ∀ s₃ : Shared, s₃ = { s₁ with heap := h₁, toks := s₁.toks + ([] : List (Str × Value)).length } →
      codeC (model prog w) A (.compLoop (.ListComp elt [⟨.Name x px, iter, [], 0⟩] scope pos) 0 (.ref I) (.ref Hr.objs.size) (compEnvC scope cl H2.objs.size env))
        (fun r s' => ∃ f, r = .ok f ∧ wpAny (model prog w) A (assign (.Name y py) env (.ref Hr.objs.size)) (fun _ s'' => ∃ m, s''.heap.Ns H2.objs.size m ∧ ∀ h', Heap.SameBut H2.objs.size s''.heap h' → Q .next { s'' with heap := h' }) noE s') s₃ := by
    rintro s₃ rfl
    refine codeC_compLoop
      (fun k s' => ∃ h' tk i ys m' news', s' = { s₁ with heap := h', toks := tk } ∧ i ≤ n ∧ k = n + 1 - i ∧ ys.length = i ∧ IsRangeIter h' I (0 + ((i : Nat) : Int) * 1) ((n : Int) - ((i : Nat) : Int)) 1 ∧ Fr h₀ env.locals h' m ∧ h'.Ns H2.objs.size m' ∧ News h₀ env.locals h' ((Hr.objs.size, LCg.lst ys) :: news') ∧
        LCg.Off3 I H2.objs.size Hr.objs.size news' ∧ J i ys news') ?_ (n + 1)
      ⟨h₁, _, 0, [], _, news, rfl, Nat.zero_le _, rfl, rfl, hst₁, F1.keeps old, hns₁, fun p hp => ?_, off₀, hJ0⟩
    · rintro k s' ⟨h', tk, i, ys, m', news', rfl, hi, rfl, hyl, hst', F', hn', N', off', hJ'⟩
      by_cases hlt : i < n
      · refine W.item i _ _ _ hlt hst' fun v h₂ tk₂ hPv hst₂ hk₂ => ?_
        refine wpAny_assign_Name (wpAny_storeName_local (lookup_relabel_local hx) (hn'.at' fun o e => hk₂ _ o (by simpa using Ne.symm hCI) e) (fun h₃ hn₃ hs₃ => ?_) (by simp [compEnvC, relabel, hkind]))
        have hst₃ : IsRangeIter h₃ I (0 + ((i + 1 : Nat) : Int) * 1) ((n : Int) - ((i + 1 : Nat) : Int)) 1 := hs₃.extBut _ _ hCI hst₂
        obtain ⟨oC, heC, hoC⟩ := LCg.ns_obj hn₃
        have F₃ : Fr h₀ env.locals h₃ m := (LCg.fr_but F' hk₂ hIL hI₀).change hs₃ hCL hC₀
        have off3 := off'.mem
        have N₂ : News h₀ env.locals h₂ ((Hr.objs.size, LCg.lst ys) :: news') := LCg.news_but N' hk₂ fun p hp => by
          rcases List.mem_cons.mp hp with rfl | hp
          · exact Ne.symm hDI
          · exact (off3 p hp).1
        have N₃ : News h₀ env.locals h₃ ((I, _) :: (H2.objs.size, oC) :: (Hr.objs.size, LCg.lst ys) :: news') := fun p hp => by
          rcases List.mem_cons.mp hp with rfl | hp
          · exact ⟨hst₃, Ne.symm hIL, hI₀⟩
          · rcases List.mem_cons.mp hp with rfl | hp
            · exact ⟨heC, hCL, hC₀⟩
            · have z := N₂ p hp
              refine ⟨hs₃.extBut _ _ ?_ z.1, z.2⟩
              rcases List.mem_cons.mp hp with rfl | hp
              · exact hDC
              · exact (off3 p hp).2.1
        refine C_mono (turn i ys news' v I _ H2.objs.size oC Hr.objs.size _ h₃ _ hlt hJ' hoC (by simp) F₃ N₃ off' hCI hDI (Ne.symm hDC)) (fun y s₄ h₄ => ?_)
        obtain ⟨h₄, tk₄, news₄, rfl, F₄, N₄, off₄, hJ₄⟩ := h₄
        have zI := (N₄ _ List.mem_cons_self).1
        have zC := (N₄ (H2.objs.size, oC) (List.mem_cons_of_mem _ List.mem_cons_self)).1
        have zD := (N₄ (Hr.objs.size, LCg.lst ys) (List.mem_cons_of_mem _ (List.mem_cons_of_mem _ List.mem_cons_self))).1
        have N₄' : News h₀ env.locals h₄ news₄ := fun p hp => N₄ p (List.mem_cons_of_mem _ (List.mem_cons_of_mem _ (List.mem_cons_of_mem _ hp)))
        refine append_at (hsz := by show ys.toArray.size ≤ sizeLine; rw [List.size_toArray, hyl]; exact Nat.le_trans hi hsz) zD fun h₅ hs₅ hD₅ => ?_
        have off4 := off₄.mem
        refine ⟨n + 1 - (i + 1), by omega, h₅, _, i + 1, ys ++ [y], _, news₄, rfl, hlt, rfl, by rw [List.length_append, List.length_singleton, hyl], hs₅.extBut _ _ hDI zI, F₄.change hs₅ hDL hD₀,
          (hoC.ns zC).sameBut hs₅ (Ne.symm hDC), fun p hp => ?_, off₄, hJ₄⟩
        rcases List.mem_cons.mp hp with rfl | hp
        · exact ⟨hD₅.trans (congrArg some (LCg.lst_snoc ys y)), hDL, hD₀⟩
        · exact ⟨hs₅.extBut _ _ (off4 p hp).2.2 (N₄' p hp).1, (N₄' p hp).2⟩
      · obtain rfl : i = n := Nat.le_antisymm hi (Nat.not_lt.mp hlt)
        refine W.done _ _ _ hst' fun h₂ tk₂ hk₂ => ?_
        have off3 := off'.mem
        refine ⟨_, rfl, ?_⟩
        have F2 := LCg.fr_but F' hk₂ hIL hI₀
        have N2 : News h₀ env.locals h₂ ((Hr.objs.size, LCg.lst ys) :: news') := LCg.news_but N' hk₂ fun p hp => by
          rcases List.mem_cons.mp hp with rfl | hp
          · exact Ne.symm hDI
          · exact (off3 p hp).1
        have hn2 := hn'.at' fun o e => hk₂ _ o (by simpa using Ne.symm hCI) e
        refine wpAny_assign_Name (wpAny_storeName_local hy F2.ns (fun h₃ hn₃ hs₃ => ?_) hp)
        have hL₀ : h₀.get? env.locals = none := Heap.get?_none_of_le F2.above
        have F₂ : Fr h₀ env.locals h₃ (fun z => if z = y then some (.ref Hr.objs.size) else m z) := ⟨hn₃, fun b o e => hs₃.extBut b o (fun q => by rw [q, hL₀] at e; cases e) (F2.keep b o e), F2.above⟩
        refine ⟨_, hn2.sameBut hs₃ hCL, fun h'' hs'' => fin Hr.objs.size h'' _ ys news' hJ' (F₂.change hs'' hCL hC₀) (fun p hp => ?_) off'.one⟩
        have z : h₃.get? p.1 = some p.2 := hs₃.extBut _ _ (N2 p hp).2.1 (N2 p hp).1
        refine ⟨hs''.extBut _ _ ?_ z, (N2 p hp).2⟩
        rcases List.mem_cons.mp hp with rfl | hp
        · exact hDC
        · exact (off3 p hp).2.1
    · rcases List.mem_cons.mp hp with rfl | hp
      · exact ⟨hacc, hDL, hD₀⟩
      · exact ⟨old _ _ (N1 p hp).1, (N1 p hp).2⟩
  exact codeC_compStart (loop _ rfl) (W.self 0 _ _ _ hst₁ (loop _ rfl))
end
end Mine
end EzComp
section EzFor
open PySem PySem.W PyProof.Rows PySem.Calls
set_option maxRecDepth 100000
namespace Mine
/-- the end of a turn of a loop: the loop goes on; a structure, so that no walk takes it apart -/
structure Turned (h₀ : Heap) (L I : Addr) (oI : Obj) (J : (Str → Option Value) → List (Addr × Obj) → Prop) (s s₂ : Shared) : Prop where
  go : ∃ h' tk' m' news', s₂ = { s with heap := h', toks := tk' } ∧ Fr h₀ L h' m' ∧ News h₀ L h' ((I, oI) :: news') ∧ LCg.Off1 I news' ∧ J m' news'
theorem off1_mem {D : Addr} : ∀ {l : List (Addr × Obj)}, LCg.Off1 D l → ∀ p ∈ l, p.1 ≠ D
  | [], _, _, h => nomatch h
  | _ :: _, x, p, h => by
    rcases List.mem_cons.mp h with rfl | h
    · exact x.1
    · exact off1_mem x.2 p h
theorem off1_of {D : Addr} : ∀ {l : List (Addr × Obj)}, (∀ p ∈ l, p.1 ≠ D) → LCg.Off1 D l
  | [], _ => trivial
  | _ :: _, h => ⟨h _ List.mem_cons_self, off1_of fun p hp => h p (List.mem_cons_of_mem _ hp)⟩
/-- what a for loop asks of its walk -/
abbrev ForTurn (prog : Program) (w : World) (A : Around) (h₀ : Heap) (L : Addr) (env : Env) (body : List Stmt) (x : Str) (n : Nat) (P : Nat → Value → Prop) (J : Nat → (Str → Option Value) → List (Addr × Obj) → Prop) (R : Flow → Shared → Prop) (s : Shared) : Prop :=
  ∀ i m news v I oI h tk, i < n → P i v → J i m news → Fr h₀ L h (fun y => if y = x then some v else m y) → News h₀ L h ((I, oI) :: news) → LCg.Off1 I news →
    wpC (model prog w) A (execs body env) (fun f s₂ => match f with
      | .next => Turned h₀ L I oI (J (i + 1)) s s₂
      | .cont => False
      | .brk => R .next s₂
      | .ret v => R (.ret v) s₂) { s with heap := h, toks := tk }
section
variable {prog : Program} {w : World} {A : Around} {s : Shared} {env : Env} {h₀ : Heap} {L : Addr} {m : Str → Option Value} {news : List (Addr × Obj)}
theorem new_none (F : Fr h₀ L s.heap m) : h₀.get? s.heap.objs.size = none := by
  cases e : h₀.get? s.heap.objs.size with
  | none => rfl
  | some o' => exact absurd (Heap.lt_size (F.keep _ o' e)) (Nat.lt_irrefl _)
theorem codeC_forW {x : Str} {px : Pos} {body : List Stmt} {R : Flow → Shared → Prop} {I : Addr} {fp : List Addr} {n : Nat} {P : Nat → Value → Prop} {St : Nat → Heap → Prop} {S : List (Addr × Obj) → Prop} (J : Nat → (Str → Option Value) → List (Addr × Obj) → Prop)
    (W : Walks prog w A I fp [I] n P St) (hIo : ∀ i h, St i h → ∃ o, h.get? I = some o)
    (hSt : ∀ i h h' o nw, St i h → h.get? I = some o → h'.get? I = some o → (∀ b o, h₀.get? b = some o → h'.get? b = some o) → News h₀ L h' nw → S nw → St i h')
    (hLe : env.locals = L) (hx : env.kindOf x = some .local) (hp : (env.scope.kind == .class || (env.scope.kind == .module && env.locals != env.globals)) = false)
    (hst : St 0 s.heap) (F : Fr h₀ L s.heap m) (N : News h₀ L s.heap news) (hIL : L ≠ I) (hI₀ : h₀.get? I = none) (off : LCg.Off1 I news) (hJ0 : J 0 m news) (hJS : ∀ i m nw, J i m nw → S nw)
    (turn : ForTurn prog w A h₀ L env body x n P J R s)
    (fin : ∀ m h tk news, J n m news → Fr h₀ L h m → News h₀ L h news → R .next { s with heap := h, toks := tk }) :
    codeC (model prog w) A (.forLoop (.Name x px) (.ref I) body [] env) (fun r s' => ∃ f, r = .ok f ∧ R f s') s := by
  subst hLe
  refine codeC_for (fun k s' => ∃ h' tk i m news, s' = { s with heap := h', toks := tk } ∧ i ≤ n ∧ k = n + 1 - i ∧ St i h' ∧ Fr h₀ env.locals h' m ∧ News h₀ env.locals h' news ∧ LCg.Off1 I news ∧ J i m news) ?_ (n + 1)
    ⟨s.heap, s.toks, 0, m, news, rfl, Nat.zero_le _, rfl, hst, F, N, off, hJ0⟩
  rintro k s' ⟨h', tk, i, m', news', rfl, hi, rfl, hst', F', N', off', hJ'⟩
  by_cases hlt : i < n
  · refine W.item i _ _ _ hlt hst' fun v h₂ tk₂ hPv hst₂ hk₂ => ?_
    have o' := off1_mem off'
    have F₂ : Fr h₀ env.locals h₂ m' := LCg.fr_but F' hk₂ hIL hI₀
    have N₂ : News h₀ env.locals h₂ news' := LCg.news_but N' hk₂ o'
    refine wpAny_assign_Name (wpAny_storeName_local hx F₂.ns (fun h₃ hn₃ hs₃ => ?_) hp)
    have hL₀ : h₀.get? env.locals = none := Heap.get?_none_of_le F₂.above
    have F₃ : Fr h₀ env.locals h₃ (fun y => if y = x then some v else m' y) := ⟨hn₃, fun b o e => hs₃.extBut b o (fun q => by rw [q, hL₀] at e; cases e) (F₂.keep b o e), F₂.above⟩
    have N₃ : News h₀ env.locals h₃ news' := fun p hp => ⟨hs₃.extBut _ _ (N₂ p hp).2.1 (N₂ p hp).1, (N₂ p hp).2⟩
    obtain ⟨oI, heI₂⟩ := hIo _ _ hst₂
    have heI : h₃.get? I = some oI := hs₃.extBut _ _ (Ne.symm hIL) heI₂
    have hst₃ : St (i + 1) h₃ := hSt _ _ _ _ _ hst₂ heI₂ heI F₃.keep N₃ (hJS _ _ _ hJ')
    refine C_mono (turn i m' news' v I oI h₃ _ hlt hPv hJ' F₃ (fun p hp => ?_) off') (fun f s₄ h₄ => ?_)
    · rcases List.mem_cons.mp hp with rfl | hp
      · exact ⟨heI, Ne.symm hIL, hI₀⟩
      · exact N₃ p hp
    · cases f with
      | next =>
        obtain ⟨h5, tk₄, m₄, news₄, rfl, F₄, N₄, off₄, hJ₄⟩ := h₄.go
        have N₄' : News h₀ env.locals h5 news₄ := fun p hp => N₄ p (List.mem_cons_of_mem _ hp)
        refine ⟨n + 1 - (i + 1), by omega, h5, tk₄, i + 1, m₄, news₄, rfl, hlt, rfl, ?_, F₄, N₄', off₄, hJ₄⟩
        exact hSt _ _ _ _ _ hst₃ heI (N₄ _ List.mem_cons_self).1 F₄.keep N₄' (hJS _ _ _ hJ₄)
      | cont => exact h₄.elim
      | brk => exact ⟨_, rfl, h₄⟩
      | ret v => exact ⟨_, rfl, h₄⟩
  · obtain rfl : i = n := Nat.le_antisymm hi (Nat.not_lt.mp hlt)
    refine W.done _ _ _ hst' fun h₂ tk₂ hk₂ => ?_
    refine C_nil ?_
    exact ⟨_, rfl, fin m' h₂ tk₂ news' hJ' (LCg.fr_but F' hk₂ hIL hI₀) (LCg.news_but N' hk₂ (off1_mem off'))⟩
/-- for x in range(n) -/
theorem C_For_range {x : Str} {px : Pos} {iter : Expr} {body : List Stmt} {pos : Pos} {Q : Flow → Shared → Prop} (n : Nat) (J : Nat → (Str → Option Value) → List (Addr × Obj) → Prop)
    (hLe : env.locals = L) (hh : A.handled = none) (hx : env.kindOf x = some .local) (hp : (env.scope.kind == .class || (env.scope.kind == .module && env.locals != env.globals)) = false)
    (h : wpAny (model prog w) A (eval iter env) (fun xv s₁ => ∃ r t u v m news, xv = .ref r ∧ Fr h₀ L s₁.heap m ∧ News h₀ L s₁.heap news ∧ IsRange s₁.heap r 0 n 1 t u v ∧ J 0 m news ∧
      ForTurn prog w A h₀ L env body x n (fun i v => ∃ t, v = .int ((i : Nat) : Int) t) J Q s₁ ∧
      (∀ m h tk news, J n m news → Fr h₀ L h m → News h₀ L h news → Q .next { s₁ with heap := h, toks := tk })) noE s)
    (hsm : Builtin.Range.small 0 n 1 = true) (hn : Builtin.Range.rangeSize 0 n 1 = ((n : Nat) : Int))
    (hs : ∀ x, foldedSetIterable iter env x = pure x := by intro _; rfl) :
    wpC (model prog w) A (exec (.For (.Name x px) iter body [] pos) env) Q s := by
  refine C_For (wpAny_mono h (fun xv s₁ h₁ => ?_) fun _ _ e => e) hs
  obtain ⟨r, t, u, v, m, news, rfl, F, N, hr, hJ0, turn, fin⟩ := h₁
  refine wpAny_pyIter_range hr hsm ?_
  have hsz : (s₁.heap.push { cls := .type "range_iterator", data := .fields #[rawInt 0, rawInt (Builtin.Range.rangeSize 0 n 1), rawInt 1] }).objs.size = s₁.heap.objs.size + 1 := Heap.size_push ..
  refine codeC_forW (s := { s₁ with heap := s₁.heap.push _ }) (S := fun _ => True) (fun i m nw => J i m nw) (LCg.range_walks hh 0 n) (fun i h st => ⟨_, st⟩) LCg.range_st hLe hx hp (by show IsRangeIter _ _ _ _ _; rw [hn]; simpa using Heap.get?_push_size _ rfl)
    (F.keeps fun _ _ e => Heap.get?_push_of_some _ e) (N.grown fun _ _ e => Heap.get?_push_of_some _ e) (Nat.ne_of_lt F.ns.lt) (new_none F) (off1_of fun p hp => Nat.ne_of_lt (Heap.lt_size (N p hp).1)) hJ0 (fun _ _ _ _ => trivial) ?_ ?_
  · intro i m news v I oI h tk hi hP
    obtain ⟨t, rfl⟩ := hP
    rw [Int.zero_add]
    refine fun a b c d => C_mono (turn i m news _ I oI h tk hi ⟨t, rfl⟩ a b c d) fun f s₄ h₄ => ?_
    cases f with
    | next => exact ⟨h₄.go⟩
    | cont => exact h₄
    | brk => exact h₄
    | ret v => exact h₄
  · intro m h tk news a b c
    exact fin m h tk news a b c
/-- for x in a list, of the ledger or of the base -/
theorem C_For_list {x : Str} {px : Pos} {iter : Expr} {body : List Stmt} {pos : Pos} {Q : Flow → Shared → Prop} (ax : Addr) (its : Array Value) (J : Nat → (Str → Option Value) → List (Addr × Obj) → Prop)
    (hLe : env.locals = L) (hh : A.handled = none) (hx : env.kindOf x = some .local) (hp : (env.scope.kind == .class || (env.scope.kind == .module && env.locals != env.globals)) = false)
    (h : wpAny (model prog w) A (eval iter env) (fun xv s₁ => ∃ m news, xv = .ref ax ∧ Fr h₀ L s₁.heap m ∧ News h₀ L s₁.heap news ∧ J 0 m news ∧
      ForTurn prog w A h₀ L env body x its.size (fun i v => its[i]? = some v) J Q s₁ ∧
      (∀ m h tk news, J its.size m news → Fr h₀ L h m → News h₀ L h news → Q .next { s₁ with heap := h, toks := tk })) noE s)
    (hJS : ∀ i m nw, J i m nw → LCg.SrcAt h₀ ax its nw)
    (hs : ∀ x, foldedSetIterable iter env x = pure x := by intro _; rfl) :
    wpC (model prog w) A (exec (.For (.Name x px) iter body [] pos) env) Q s := by
  refine C_For (wpAny_mono h (fun xv s₁ h₁ => ?_) fun _ _ e => e) hs
  obtain ⟨m, news, rfl, F, N, hJ0, turn, fin⟩ := h₁
  have hl := (hJS _ _ _ hJ0).list F.keep N
  have hlt : ax < s₁.heap.objs.size := by obtain ⟨_, e, _⟩ := hl; exact Heap.lt_size e
  refine wpAny_pyIter_list hl ?_
  refine codeC_forW (s := { s₁ with heap := s₁.heap.push _ }) (S := LCg.SrcAt h₀ ax its) (fun i m nw => J i m nw) (Walks.list hh s₁.heap.objs.size ax (Nat.ne_of_lt hlt) its) (fun i h st => by obtain ⟨o, e, _⟩ := st.1; exact ⟨o, e⟩) LCg.list_st hLe hx hp ⟨⟨_, Heap.get?_push_size _ rfl, rfl, rfl⟩, hl.push _⟩
    (F.keeps fun _ _ e => Heap.get?_push_of_some _ e) (N.grown fun _ _ e => Heap.get?_push_of_some _ e) (Nat.ne_of_lt F.ns.lt) (new_none F) (off1_of fun p hp => Nat.ne_of_lt (Heap.lt_size (N p hp).1)) hJ0 hJS ?_ ?_
  · intro i m news v I oI h tk hi hP a b c d
    refine C_mono (turn i m news _ I oI h tk hi hP a b c d) fun f s₄ h₄ => ?_
    cases f with
    | next => exact ⟨h₄.go⟩
    | cont => exact h₄
    | brk => exact h₄
    | ret v => exact h₄
  · intro m h tk news a b c
    exact fin m h tk news a b c
end
end Mine
namespace Mine
section
variable {M : Model} {A : Around} {s : Shared} {env : Env}
theorem C_Assign_Tuple {elts k tpos value pos} {Q : Flow → Shared → Prop}
    (h : wpC M A (eval value env) (fun v s₁ => wpAny M A (assign (.Tuple elts k tpos) env v) (fun _ => Q .next) noE s₁) s)
    (hs : swapsWithSole [.Tuple elts k tpos] value pos.line env = pure false := by rfl)
    (hw : swappedStores [.Tuple elts k tpos] value env = pure none := by rfl) :
    wpC M A (exec (.Assign [.Tuple elts k tpos] value pos) env) Q s := by
  rw [PyProof.Rows.exec_Assign]
  refine C_bind (C_standAt ?_)
  rw [hs]
  refine C_bind (C_pure ?_)
  rw [if_neg (by decide)]
  refine C_bind (C_mono h (fun v s₁ h₁ => ?_))
  rw [hw]
  refine C_bind (C_pure ?_)
  show wpC M A (do assignAll v [assign (.Tuple elts k tpos) env]; pure .next) Q s₁
  exact C_bind (C_of (wpAny_mono h₁ (fun _ _ x => C_pure x) fun _ _ x => x))
end
end Mine
namespace Mine
section
variable {prog : Program} {w : World} {A : Around} {s : Shared} {env : Env} {h₀ : Heap} {L : Addr}
/-- a turn of a loop that may be left -/
abbrev ForTurnB (prog : Program) (w : World) (A : Around) (h₀ : Heap) (L : Addr) (env : Env) (body : List Stmt) (x : Str) (n : Nat) (P : Nat → Value → Prop) (J : Nat → (Str → Option Value) → List (Addr × Obj) → Prop) (s : Shared) : Prop :=
  ∀ i m news v I oI h tk, i < n → P i v → J i m news → Fr h₀ L h (fun y => if y = x then some v else m y) → News h₀ L h ((I, oI) :: news) → LCg.Off1 I news →
    wpC (model prog w) A (execs body env) (fun f s₂ => match f with
      | .next => Turned h₀ L I oI (J (i + 1)) s s₂
      | .cont => False
      | .brk => Turned h₀ L I oI (J (i + 1)) s s₂
      | .ret _ => False) { s with heap := h, toks := tk }
/-- for x in range(n), where the loop may be left and n is found on the way -/
theorem C_For_rangeB {x : Str} {px : Pos} {iter : Expr} {body : List Stmt} {pos : Pos} {Q : Flow → Shared → Prop}
    (hLe : env.locals = L) (hh : A.handled = none) (hx : env.kindOf x = some .local) (hp : (env.scope.kind == .class || (env.scope.kind == .module && env.locals != env.globals)) = false)
    (h : wpAny (model prog w) A (eval iter env) (fun xv s₁ => ∃ (n : Nat) (J : Nat → (Str → Option Value) → List (Addr × Obj) → Prop) (r : Addr) (t u v : Tok) (m : Str → Option Value) (news : List (Addr × Obj)), xv = .ref r ∧ Fr h₀ L s₁.heap m ∧ News h₀ L s₁.heap news ∧ IsRange s₁.heap r 0 n 1 t u v ∧ Builtin.Range.small 0 n 1 = true ∧ Builtin.Range.rangeSize 0 n 1 = ((n : Nat) : Int) ∧ J 0 m news ∧
      ForTurnB prog w A h₀ L env body x n (fun i v => ∃ t, v = .int ((i : Nat) : Int) t) J s₁ ∧
      (∀ i m h tk news, i ≤ n → J i m news → Fr h₀ L h m → News h₀ L h news → Q .next { s₁ with heap := h, toks := tk })) noE s)
    (hs : ∀ x, foldedSetIterable iter env x = pure x := by intro _; rfl) :
    wpC (model prog w) A (exec (.For (.Name x px) iter body [] pos) env) Q s := by
  refine C_For (wpAny_mono h (fun xv s₁ h₁ => ?_) fun _ _ e => e) hs
  obtain ⟨n, J, r, t, u, v, m, news, rfl, F, N, hr, hsm, hn, hJ0, turn, fin⟩ := h₁
  refine wpAny_pyIter_range hr hsm ?_
  refine codeC_forW (s := { s₁ with heap := s₁.heap.push _ }) (S := fun _ => True) (fun i m nw => J i m nw) (LCg.range_walks hh 0 n) (fun i h st => ⟨_, st⟩) LCg.range_st hLe hx hp (by show IsRangeIter _ _ _ _ _; rw [hn]; simpa using Heap.get?_push_size _ rfl)
    (F.keeps fun _ _ e => Heap.get?_push_of_some _ e) (N.grown fun _ _ e => Heap.get?_push_of_some _ e) (Nat.ne_of_lt F.ns.lt) (new_none F) (off1_of fun p hp => Nat.ne_of_lt (Heap.lt_size (N p hp).1)) hJ0 (fun _ _ _ _ => trivial) ?_ ?_
  · intro i m news v I oI h tk hi hP
    obtain ⟨t, rfl⟩ := hP
    rw [Int.zero_add]
    refine fun a b c d => C_mono (turn i m news _ I oI h tk hi ⟨t, rfl⟩ a b c d) fun f s₄ h₄ => ?_
    cases f with
    | next => exact ⟨h₄.go⟩
    | cont => exact h₄
    | brk =>
      obtain ⟨h', tk', m', news', rfl, F', N', off', J'⟩ := h₄.go
      exact fin (i + 1) m' h' tk' news' hi J' F' (fun p hp => N' p (List.mem_cons_of_mem _ hp))
    | ret v => exact h₄.elim
  · intro m h tk news a b c
    exact fin n m h tk news (Nat.le_refl _) a b c
theorem len_led {E : Value → Shared → Prop} {news : List (Addr × Obj)} {D : Addr} {n : Nat} {Q : Value → Shared → Prop} {items : List Value} (N : News h₀ L s.heap news) (hm : (D, listOf items.toArray n) ∈ news) (hl : items.length < 1000000) (h : ∀ t k, Q (.int ((items.length : Nat) : Int) t) { s with toks := k }) :
    wpAny (model prog w) A (call (.builtin "len") [.ref D]) Q E s := by
  refine len_list (items := items.toArray) ⟨_, (N _ hm).1, rfl, _, rfl⟩ (by rw [List.size_toArray]; omega) ?_
  have := h (s.toks + 1) (s.toks + 1 + 1)
  simpa using this
end
end Mine
end EzFor
section EzLv0
open PySem PySem.W PyProof.Rows PySem.Calls
set_option maxRecDepth 100000
namespace Mine
def szV : Nat → Nat
  | 0 => 2
  | d + 1 => 2 + 3 * szV d
abbrev lvPost (d : Nat) (place : Int) (g : Heap) (v : Value) (h' : Heap) : Prop :=
  ∃ (V : Vl) (T : List (Addr × Obj)) (tup a : Addr) (pl' : Int) (t1 : Tok), v = .ref tup ∧ (∀ x ∈ (tup, tupOb [.ref a, .int pl' t1]) :: T, h'.get? x.1 = some x.2 ∧ g.get? x.1 = none) ∧ Lay (fun a o => (a, o) ∈ T) V (.ref a) ∧ Wf d V ∧ place + 2 ≤ pl' ∧ pl' ≤ place + szV d
def LV (w : World) (p : Program) (loose : List Str) (mean : ExcName → Option Value) (mg mb : Str → Option Value) (l : Addr) (vs : List Value) (d : Nat) : Prop :=
  ∀ (place : Int) (u1 u2 : Tok) (dd : Int), dd = d → 0 ≤ place → place + szV d < 1000 → DoesC (Mine.frag.heap_1 w.params) PySem.Challenge.rw_ez0337_01.row.prog w p loose mean mg mb (4 + 2 * d) 1132 [.ref l, .int place u1, .int dd u2] [] [] (fun g => g.IsList l vs.toArray) (lvPost d place)
section
variable {g h' : Heap} {L : Addr} {d : Nat} {place pl' : Int} {D a : Addr} {t1 t : Tok} {n : Nat} {rest : List (Addr × Obj)}
theorem lv_leaf {V : Vl} {o : Obj} (N : News g L h' ((D, tupOb [.ref a, .int pl' t1]) :: (a, o) :: rest)) (hl : Lay (fun x y => (x, y) ∈ [(a, o)]) V (.ref a)) (hw : Wf d V) (h1 : place + 2 ≤ pl') (h2 : pl' ≤ place + szV d) : lvPost d place g (.ref D) h' :=
  ⟨V, [(a, o)], D, a, pl', t1, rfl, fun x hx => by
    simp only [List.mem_cons, List.not_mem_nil, or_false] at hx
    rcases hx with rfl | rfl
    · exact ⟨(N _ (.head _)).1, (N _ (.head _)).2.2⟩
    · exact ⟨(N _ (.tail _ (.head _))).1, (N _ (.tail _ (.head _))).2.2⟩, hl, hw, h1, h2⟩
theorem lv_line {i : Nat} {tx : Tok} (N : News g L h' ((D, tupOb [.ref a, .int pl' t1]) :: (a, listOf #[.str (PySem.Str.ofString "line") t, .str (lineT i) tx] n) :: rest))  (h1 : place + 2 ≤ pl') (h2 : pl' ≤ place + szV d) : lvPost d place g (.ref D) h' :=
  lv_leaf (V := .line i) N (by unfold Lay; exact ⟨a, n, t, tx, rfl, .head _⟩) .line h1 h2
theorem lv_num {z : Int} {tx : Tok} (N : News g L h' ((D, tupOb [.ref a, .int pl' t1]) :: (a, listOf #[.str (PySem.Str.ofString "number") t, .int z tx] n) :: rest)) (hz1 : -(10 ^ 7 : Int) < z) (hz2 : z < 10 ^ 7) (h1 : place + 2 ≤ pl') (h2 : pl' ≤ place + szV d) : lvPost d place g (.ref D) h' :=
  lv_leaf (V := .num z) N (by unfold Lay; exact ⟨a, n, t, tx, rfl, .head _⟩) (.num hz1 hz2) h1 h2
theorem lv_null  (N : News g L h' ((D, tupOb [.ref a, .int pl' t1]) :: (a, listOf #[.str (PySem.Str.ofString "null") t, .none] n) :: rest))  (h1 : place + 2 ≤ pl') (h2 : pl' ≤ place + szV d) : lvPost d place g (.ref D) h' :=
  lv_leaf (V := .null) N (by unfold Lay; exact ⟨a, n, t, rfl, .head _⟩) .null h1 h2
theorem lv_non  (N : News g L h' ((D, tupOb [.ref a, .int pl' t1]) :: (a, listOf #[.str (PySem.Str.ofString "none") t, .none] n) :: rest))  (h1 : place + 2 ≤ pl') (h2 : pl' ≤ place + szV d) : lvPost d place g (.ref D) h' :=
  lv_leaf (V := .non) N (by unfold Lay; exact ⟨a, n, t, rfl, .head _⟩) .non h1 h2
theorem lv_err {i : Nat} {tx : Tok} (N : News g L h' ((D, tupOb [.ref a, .int pl' t1]) :: (a, listOf #[.str (PySem.Str.ofString "error") t, .str (errT i) tx] n) :: rest))  (h1 : place + 2 ≤ pl') (h2 : pl' ≤ place + szV d) : lvPost d place g (.ref D) h' :=
  lv_leaf (V := .err i) N (by unfold Lay; exact ⟨a, n, t, tx, rfl, .head _⟩) .err h1 h2
theorem lv_oct {i : Nat} {tx : Tok} (N : News g L h' ((D, tupOb [.ref a, .int pl' t1]) :: (a, listOf #[.str (PySem.Str.ofString "octets") t, .str (octT i) tx] n) :: rest))  (h1 : place + 2 ≤ pl') (h2 : pl' ≤ place + szV d) : lvPost d place g (.ref D) h' :=
  lv_leaf (V := .oct i) N (by unfold Lay; exact ⟨a, n, t, tx, rfl, .head _⟩) .oct h1 h2
theorem lv_list {e : Nat} {r : Addr} {ys : List Value} {Vs : List Vl} {c : Nat} {T : List (Addr × Obj)} (N : News g L h' ((D, tupOb [.ref a, .int pl' t1]) :: (a, listOf #[.str (PySem.Str.ofString "list") t, .ref r] n) :: (r, listOf (List.toArray ys) c) :: T)) (hL : Lays (fun x o => (x, o) ∈ T) Vs ys) (hl : Vs.length < 4) (hW : ∀ V ∈ Vs, Wf e V) (h1 : place + 2 ≤ pl') (h2 : pl' ≤ place + szV (e + 1)) : lvPost (e + 1) place g (.ref D) h' :=
  ⟨.list Vs, (a, listOf #[.str (PySem.Str.ofString "list") t, .ref r] n) :: (r, listOf (List.toArray ys) c) :: T, D, a, pl', t1, rfl, fun x hx => ⟨(N x hx).1, (N x hx).2.2⟩, by
    unfold Lay
    exact ⟨a, n, t, r, ys, c, rfl, .head _, .tail _ (.head _), Lays.mono (fun _ _ hm => .tail _ (.tail _ hm)) hL⟩, .list hl hW, h1, h2⟩
end
section
variable {w : World} {p : Program} {loose : List Str} {mean : ExcName → Option Value} {mg mb : Str → Option Value} {dp un : Nat} {gd : Option (List Code)} {outer : List Env} {base g : Heap} {A₀ : Around} {s : Shared} {cn : Str} {cs : Scope} {L a : Addr} {ccd : Value} {cl : List (Str × Addr)} {m : Str → Option Value}
theorem c_lv {Q : Value → Shared → Prop} {l : Addr} {vs : List Value} {d : Nat} {place dd : Int} {u1 u2 : Tok} {news : List (Addr × Obj)} (C : LV w p loose mean mg mb l vs d) (B : Below A₀ base outer g) (F : Fr g L s.heap m) (X : (Mine.frag.heap_1 w.params).In g) (T : Top p loose mean mg mb g)
    (N : News g L s.heap news) (hl : g.IsList l vs.toArray) (hk : cs.kind = .function) (hdd : dd = d) (h0 : 0 ≤ place) (h1 : place + szV d < 1000) (hd : dp + (4 + 2 * d) < recursionLimit) (hu : un + 8 * (4 + 2 * d) < cLine)
    (h : ∀ h' t' V (T2 : List (Addr × Obj)) tup a pl' t1, Fr g L h' m → News g L h' ((tup, tupOb [.ref a, .int pl' t1]) :: (T2 ++ news)) → (∀ p ∈ (tup, tupOb [.ref a, .int pl' t1]) :: T2, ∀ q ∈ news, p.1 ≠ q.1) → Lay (fun a o => (a, o) ∈ T2) V (.ref a) → Wf d V → place + 2 ≤ pl' → pl' ≤ place + szV d → Q (.ref tup) { s with heap := h', toks := t' }) :
    wpC (model PySem.Challenge.rw_ez0337_01.row.prog w) (Ar dp un gd (envX cn cs L a ccd cl :: outer)) (call (.ref 1132) [.ref l, .int place u1, .int dd u2] []) Q s := by
  refine useC (C place u1 u2 dd hdd h0 h1) B F X N T hk (keepL := news) (fun _ q => nomatch q) (fun q hq => ⟨hq, fun hm => nomatch hm⟩) (fun g' st _ => ?_) hd hu ?_
  · obtain ⟨o, e, r⟩ := hl
    exact ⟨o, st _ _ e, r⟩
  intro v₄ h₄ t₄ g₄ F₄ N₄ st₄ kp₄ st₄' post₄ bld
  obtain ⟨V, T2, tup, a, pl', t1, rfl, hT, hL, hW, hp1, hp2⟩ := post₄
  refine h h₄ t₄ V T2 tup a pl' t1 F₄ (News.append (bld ((tup, tupOb [.ref a, .int pl' t1]) :: T2) fun x hx => ⟨(hT x hx).1, .inr (hT x hx).2⟩) N₄) (fun x hx q hq e => ?_) hL hW hp1 hp2
  have z := kp₄ q hq
  rw [← e, (hT x hx).2] at z; cases z
end
end Mine
end EzLv0
section EzLv
open PySem PySem.W PyProof.Rows PySem.Calls
namespace Mine
set_option maxRecDepth 100000
set_option maxHeartbeats 1000000
local macro_rules | `(tactic| k_in) => `(tactic| first | k_in_fast | exact Frag.In.keeps (by k_asm) (Fr.keep (by k_asm)))
local macro_rules | `(tactic| k_room) => `(tactic| ktr_room)
local macro_rules | `(tactic| k_units) => `(tactic| ktr_units)
local macro_rules | `(tactic| k_upd) => `(tactic| (refine Upd.head ?_; assumption))
local macro_rules | `(tactic| size_fits) => `(tactic| assumption)
local macro_rules | `(tactic| k_fill) => `(tactic| (k_with_none; (k_with "eval Name" => (k_here; k_dflt (first | (refine' nameX_K ?F ?X ?T ?e ?_ ?a ?b ?c; (case F => k_asm); (case X => k_asm); (case T => k_asm); (case e => k_is); (case a => kernel_rfl); (case b => kernel_rfl); (case c => kernel_rfl); k_whole) | (refine' nameX_C ?N ?h ?m ?d ?_ ?a ?b ?c; (case h => rfl); (case N => k_asm); (case m => k_mem); (case d => k_asm); (case a => kernel_rfl); (case b => kernel_rfl); (case c => kernel_rfl); k_whole) | (refine' nameX_L ?F ?v ?_ ?a ?b ?c; (case F => k_asm); (case v => rfl); (case a => kernel_rfl); (case b => kernel_rfl); (case c => kernel_rfl); k_whole) | (refine' nameX_B ?F ?X ?T ?e ?v ?n ?_ ?a ?b ?c; (case F => k_asm); (case X => k_asm); (case T => k_asm); (case e => k_is); (case v => boot_fast); (case n => decide); (case a => kernel_rfl); (case b => kernel_rfl); (case c => kernel_rfl); k_whole)))); (k_with "ite" => (k_closed; first | (refine ite_pos ?h ?_; (case h => k_dflt (decide +kernel))) | (refine ite_neg ?h ?_; (case h => k_dflt (decide +kernel))))); (k_with "eval Call" => (k_here; (with_reducible show wpAny _ _ (eval (Expr.Call (Expr.Name _ _) _ [] _) _) _ _ _); k_dflt (refine Call_ ?_))); (k_with "call ref" => (k_here; (first | (with_reducible show wpAny _ _ (call (Value.ref 1125) _ _) _ _ _) | (with_reducible show wpAny _ _ (call (Value.ref (nat_lit 1125)) _ _) _ _ _)); k_dflt (refine' c_at ?B ?F ?X ?T ?N ?hl ?hi ?hn ?hk ?h0 ?h1 ?hd ?hu ?_; (case B => k_asm); (case F => k_asm); (case X => k_asm); (case T => k_asm); (case N => k_asm); (case hl => assumption); (case hi => assumption); (case hn => assumption); (case hk => rfl); (case h0 => omega); (case h1 => omega); (case hd => first | omega | (dsimp only [Ar, Around.deeper]; omega)); (case hu => first | omega | (dsimp only [Ar, Around.deeper]; omega)); k_whole); intro h' t' z' tz' F' N'; (try k_sweep))); (k_with "subscriptTail" => (k_here; (with_reducible show wpAny _ _ (subscriptTail _ _ (Value.ref _) (Value.int (Int.fmod _ 7) _)) _ _ _); k_dflt (refine' item_oct ?N ?hm ?hs ?_; (case N => k_asm); (case hm => k_mem); (case hs => with_unfolding_all rfl); k_whole); intro i' t')); (k_with "subscriptTail" => (k_here; (with_reducible show wpAny _ _ (subscriptTail (Expr.List (Expr.Constant (Const.str (PySem.Str.ofString "")) _ _ :: _) _) _ (Value.ref _) (Value.int (Int.fmod _ 4) _)) _ _ _); k_dflt (refine' item_line ?N ?hm ?hs ?_; (case N => k_asm); (case hm => k_mem); (case hs => with_unfolding_all rfl); k_whole); intro i' t')); (k_with "subscriptTail" => (k_here; (with_reducible show wpAny _ _ (subscriptTail (Expr.List (Expr.Constant (Const.str (PySem.Str.ofString "ERR no")) _ _ :: _) _) _ (Value.ref _) (Value.int (Int.fmod _ 4) _)) _ _ _); k_dflt (refine' item_err ?N ?hm ?hs ?_; (case N => k_asm); (case hm => k_mem); (case hs => with_unfolding_all rfl); k_whole); intro i' t')); (k_with "subscriptTail" => (k_here; (with_reducible show wpAny _ _ (subscriptTail _ _ (Value.ref _) (Value.int (Int.fmod _ 3) _)) _ _ _); k_dflt (refine' item_num ?N ?hm ?hs ?_; (case N => k_asm); (case hm => k_mem); (case hs => with_unfolding_all rfl); k_whole); intro z' t' b1' b2'))))
theorem lv_step (w : World) (p : Program) (loose : List Str) (mean : ExcName → Option Value) (mg mb : Str → Option Value) (l : Addr) (vs : List Value) (ns : List Int) (hi : IntsAre vs ns) (hlen : ns.length ≤ 63) (d : Nat) (hd2 : d ≤ 2) (ih : ∀ e, d = e + 1 → LV w p loose mean mg mb l vs e) : LV w p loose mean mg mb l vs d := by
  have hsz2 : szV d ≤ 26 ∧ 2 ≤ szV d := by
    have : d = 0 ∨ d = 1 ∨ d = 2 := by omega
    rcases this with rfl | rfl | rfl <;> decide
  intro place u1 u2 dd hdd hp0 hp1
  k_fill
  intro dp un gd outer base g A₀ s R B st X T hW hsz hPre hd hu kont
  refine' enterC (binds := [("script", .ref l), ("place", .int place u1), ("deep", .int dd u2)]) st X T hW hsz ?ho ?hcd ?hroom ?hbind ?hloc ?_ ?c2 ?c3 ?c4 ?c5
  case ho => k_is
  case hcd => k_is
  case hroom => omega
  case hbind => exact BindsTo.of_eq rfl
  case hloc => exact locs rfl
  case c2 => rfl
  case c3 => rfl
  case c4 => rfl
  case c5 => decide
  intro L' h₁ F N hlt
  replace F : Fr g L' h₁ (fun y => List.lookup y [("deep", .int dd u2), ("place", .int place u1), ("script", .ref l)]) := F
  refine C_consK ?_
  k_steps
  all_goals (try dsimp only)
  refine C_cons (C_If ?_)
  k_steps
  all_goals (try dsimp only)
  · obtain ⟨e, rfl⟩ : ∃ e, d = e + 1 := ⟨d - 1, by omega⟩
    have ihe := ih e rfl
    clear ih
    have hse : szV (e + 1) = 2 + 3 * szV e := rfl
    refine C_consK ?_
    k_steps
    all_goals (try dsimp only)
    refine C_consK ?_
    k_steps
    all_goals (try dsimp only)
    refine C_consK ?_
    k_steps
    all_goals (try dsimp only)
    rename Fr g L' _ _ => kF
    rename News g L' _ _ => kN
    obtain ⟨D, kv, mz, mt, pt, kF2, kN2, hmz⟩ : ∃ D kv mz mt pt, Fr g L' _ (fun y => if y = "row" then some (.ref D) else if y = "place" then some (.int (place + 2) pt) else if y = "many" then some (.int mz mt) else if y = "kind" then some kv else List.lookup y [("deep", .int dd u2), ("place", .int place u1), ("script", .ref l)]) ∧ News g L' _ [(D, listOf #[] 0)] ∧ (0 ≤ mz ∧ mz < 4) := ⟨_, _, _, _, _, kF, kN, fm _ (by decide)⟩
    clear kF kN
    obtain ⟨nm, rfl⟩ := Int.eq_ofNat_of_zero_le hmz.1
    have hnm : nm < 4 := by omega
    clear hmz
    obtain ⟨mv, hmv⟩ : ∃ mv, mv = Value.int ((nm : Nat) : Int) mt := ⟨_, rfl⟩
    refine C_cons (C_For_range (h₀ := g) (L := L') nm (fun i m news => ∃ (pl : Int) (tp : Tok) (tv ov : Option Value) (ys : List Value) (Vs : List Vl) (T : List (Addr × Obj)) (c : Nat), m = (fun (y : PySem.Str) => if y = "turn" then tv else if y = "one" then ov else if y = "place" then some (.int pl tp) else if y = "row" then some (.ref D) else if y = "many" then some mv else if y = "kind" then some kv else List.lookup y [("deep", .int dd u2), ("place", .int place u1), ("script", .ref l)]) ∧ news = (D, listOf (List.toArray ys) c) :: T ∧ (∀ p ∈ T, p.1 ≠ D) ∧ ys.length = i ∧ Lays (fun a o => (a, o) ∈ T) Vs ys ∧ (∀ V ∈ Vs, Wf e V) ∧ Vs.length = i ∧ place + 2 ≤ pl ∧ pl ≤ place + 2 + i * szV e) rfl rfl rfl rfl ?h (range_small hnm).1 (range_small hnm).2)
    iterate 6 walk1
    refine range1_rows kF2 kN2 ?_
    intro h₆ t₆ ta tb tc hr F₆ N₆ _
    clear kF2 kN2
    refine ⟨_, ta, tb, tc, _, _, rfl, F₆, N₆, hr, ?J0, ?turn, ?fin⟩
    case J0 =>
      refine ⟨place + 2, pt, none, none, [], [], [], 0, ?_, rfl, (fun _ h => nomatch h), rfl, (by unfold Lays; trivial), (fun _ h => nomatch h), rfl, by omega, by omega⟩
      rw [hmv]
      funext y
      by_cases e0 : y = "turn"
      · subst e0; with_unfolding_all rfl
      by_cases e1 : y = "one"
      · subst e1; with_unfolding_all rfl
      by_cases e2 : y = "place"
      · subst e2; with_unfolding_all rfl
      by_cases e3 : y = "row"
      · subst e3; with_unfolding_all rfl
      by_cases e4 : y = "many"
      · subst e4; with_unfolding_all rfl
      by_cases e5 : y = "kind"
      · subst e5; with_unfolding_all rfl
      simp only [e0, e1, e2, e3, e4, e5, if_false]
    case turn =>
      rintro i m news v I oI h tk hi ⟨tt, rfl⟩ hJ F N off
      obtain ⟨pl, tp, tv, ov, ys, Vs, T', c, rfl, rfl, hoff, hyl, hL, hW, hVl, hp1, hp2⟩ := hJ
      have offm := off1_mem off
      have hDI : @Ne Nat D I := offm _ (.head _)
      have hpe : i * szV e ≤ 2 * szV e := Nat.mul_le_mul_right _ (by omega)
      have hpe2 : (i + 1) * szV e = i * szV e + szV e := Nat.succ_mul _ _
      have hpz : ((i : Nat) : Int) * ((szV e : Nat) : Int) ≤ 2 * ((szV e : Nat) : Int) := by exact_mod_cast hpe
      have hpz2 : ((i + 1 : Nat) : Int) * ((szV e : Nat) : Int) = ((i : Nat) : Int) * ((szV e : Nat) : Int) + ((szV e : Nat) : Int) := by exact_mod_cast hpe2
      (try dsimp only at N)
      refine C_cons (C_Assign_Tuple (C_Call_Name ?_))
      k_steps
      refine C_callK (K := Mine.frag.heap_1 w.params) ?kK ?_
      case kK => k_is
      k_steps
      rename Fr g L' _ _ => kF
      rename News g L' _ _ => kN
      (try dsimp only [List.cons_append, List.nil_append])
      refine' c_lv ihe B kF X T kN hPre rfl ?hdd ?h0 ?h1 ?hd ?hu ?_
      case hdd => omega
      case h0 => omega
      case h1 => omega
      case hd => show dp + 1 + (4 + 2 * e) < recursionLimit; omega
      case hu => show un + 3 + 8 * (4 + 2 * e) < cLine; omega
      intro h₇ t₇ V T2 tup a pl' t1 F₇ N₇ hap7 hL7 hW7 hq1 hq2
      clear kF kN
      have hUp : ∀ p ∈ (I, oI) :: (tup, tupOb [.ref a, .int pl' t1]) :: (T2 ++ T'), p.1 ≠ D := by
        intro p hp
        rcases List.mem_cons.mp hp with rfl | hp
        · exact Ne.symm hDI
        · rcases List.mem_cons.mp hp with rfl | hp
          · exact hap7 _ (.head _) (D, listOf (List.toArray ys) c) (.tail _ (.head _))
          · exact (List.mem_append.mp hp).elim (fun h => hap7 _ (.tail _ h) (D, listOf (List.toArray ys) c) (.tail _ (.head _))) (hoff p)
      have hoI : ∀ p ∈ (tup, tupOb [.ref a, .int pl' t1]) :: (T2 ++ T'), p.1 ≠ I := by
        intro p hp
        rcases List.mem_cons.mp hp with rfl | hp
        · exact hap7 _ (.head _) (I, oI) (.head _)
        · exact (List.mem_append.mp hp).elim (fun h => hap7 _ (.tail _ h) (I, oI) (.head _)) (fun h => offm p (.tail _ h))
      have N₈ : News g L' h₇ ((D, listOf (List.toArray ys) c) :: (I, oI) :: (tup, tupOb [.ref a, .int pl' t1]) :: (T2 ++ T')) := News.perm N₇ (by
        intro p hp
        simp only [List.mem_cons, List.mem_append] at hp ⊢
        rcases hp with h | h | h | h | h <;> simp [h])
      clear N₇ hap7
      have hys : (List.toArray ys).size ≤ sizeLine := by
        rw [List.size_toArray, sizeLine_eq]; omega
      (try dsimp only)
      k_steps
      all_goals (try dsimp only)
      refine C_consK ?_
      k_steps
      all_goals (try dsimp only)
      refine C_nil ?_
      (try dsimp only)
      rename Fr g L' _ _ => kF
      rename News g L' _ _ => kN
      rw [List.push_toArray] at kN
      refine ⟨_, _, _, (D, listOf (List.toArray (ys ++ [.ref a])) (c + 1)) :: (tup, tupOb [.ref a, .int pl' t1]) :: (T2 ++ T'), rfl, kF, News.perm kN (by
        intro p hp
        simp only [List.mem_cons, List.mem_append] at hp ⊢
        rcases hp with h | h | h | h | h <;> simp [h]), off1_of (fun p hp => ?_), pl', t1, some (.int ((i : Nat) : Int) tt), some (.ref a), ys ++ [.ref a], Vs ++ [V], (tup, tupOb [.ref a, .int pl' t1]) :: (T2 ++ T'), c + 1, ?_, rfl, fun p hp => hUp p (.tail _ hp),
        by rw [List.length_append, List.length_singleton, hyl], Lays.snoc (Lays.mono (fun _ _ hm => .tail _ (List.mem_append_right _ hm)) hL) (Lay.mono (fun _ _ hm => .tail _ (List.mem_append_left _ hm)) hL7),
        fun W hm => (List.mem_append.mp hm).elim (hW W) (fun h => by rw [List.mem_singleton.mp h]; exact hW7), by rw [List.length_append, List.length_singleton, hVl], by omega, by omega⟩
      · rcases List.mem_cons.mp hp with rfl | hp
        · exact hDI
        · exact hoI p hp
      · funext y
        by_cases e0 : y = "turn"
        · subst e0; with_unfolding_all rfl
        by_cases e1 : y = "one"
        · subst e1; with_unfolding_all rfl
        by_cases e2 : y = "place"
        · subst e2; with_unfolding_all rfl
        by_cases e3 : y = "row"
        · subst e3; with_unfolding_all rfl
        by_cases e4 : y = "many"
        · subst e4; with_unfolding_all rfl
        by_cases e5 : y = "kind"
        · subst e5; with_unfolding_all rfl
        simp only [e0, e1, e2, e3, e4, e5, if_false]
    case fin =>
      intro m h tk news hJ F N
      obtain ⟨pl, tp, tv, ov, ys, Vs, T', c, rfl, rfl, hoff, hyl, hL, hW, hVl, hp1, hp2⟩ := hJ
      have hpe : nm * szV e ≤ 3 * szV e := Nat.mul_le_mul_right _ (by omega)
      have hpz : ((nm : Nat) : Int) * ((szV e : Nat) : Int) ≤ 3 * ((szV e : Nat) : Int) := by exact_mod_cast hpe
      refine C_consK ?_
      k_steps
      all_goals (try dsimp only)
      rename News g L' _ _ => kN7
      exact kont _ _ _ (Fr.keep (by assumption)) (lv_list kN7 hL (hVl ▸ hnm) hW (by omega) (by omega))
  all_goals (refine C_nil ?_)
  all_goals (try dsimp only)
  all_goals (refine C_of ?_)
  all_goals k_steps
  all_goals (try dsimp only)
  all_goals (rename News g L' _ _ => kN7)
  all_goals first
    | exact kont _ _ _ (Fr.keep (by assumption)) (lv_line kN7 (by omega) (by omega))
    | exact kont _ _ _ (Fr.keep (by assumption)) (lv_num kN7 (by assumption) (by assumption) (by omega) (by omega))
    | exact kont _ _ _ (Fr.keep (by assumption)) (lv_null kN7 (by omega) (by omega))
    | exact kont _ _ _ (Fr.keep (by assumption)) (lv_non kN7 (by omega) (by omega))
    | exact kont _ _ _ (Fr.keep (by assumption)) (lv_err kN7 (by omega) (by omega))
    | exact kont _ _ _ (Fr.keep (by assumption)) (lv_oct kN7 (by omega) (by omega))
theorem lv_all (w : World) (p : Program) (loose : List Str) (mean : ExcName → Option Value) (mg mb : Str → Option Value) (l : Addr) (vs : List Value) (ns : List Int) (hi : IntsAre vs ns) (hlen : ns.length ≤ 63) : ∀ d, d ≤ 2 → LV w p loose mean mg mb l vs d
  | 0, h => lv_step w p loose mean mg mb l vs ns hi hlen 0 h fun e he => absurd he (by omega)
  | d + 1, h => lv_step w p loose mean mg mb l vs ns hi hlen (d + 1) h fun e he => by
    obtain rfl : d = e := by omega
    exact lv_all w p loose mean mg mb l vs ns hi hlen d (by omega)
end Mine
end EzLv
section EzDec
open PySem PySem.W PyProof.Rows PySem.Calls Builtin
set_option maxRecDepth 100000
set_option maxHeartbeats 1000000
namespace Mine
section
variable {b : Array UInt8} {c : UInt8} {cs : List UInt8} {t u v : Tok} {x : PySem.Str} {n : Nat}
theorem dec_eq1 : «bytes.decode» ⟨[.bytes (c :: cs).toArray t, .str (PySem.Str.ofString "utf-8") u], []⟩ = (mkStr (PySem.Str.ofString "utf-8") >>= fun _ => mkStr (PySem.Str.ofString "utf-8") >>= fun e => mkStr (PySem.Str.ofString "bytes.decode") >>= fun d =>
    call (.builtin "_codecs.decode.text") [.bytes (c :: cs).toArray t, e, .none, d] >>= fun v => ret v) := by kernel_rfl
theorem dec_eq2 : «bytes.decode» ⟨[.bytes (c :: cs).toArray t, .str (PySem.Str.ofString "utf-8") u], [(PySem.Str.ofString "errors", .str (PySem.Str.ofString "replace") v)]⟩ = (mkStr (PySem.Str.ofString "utf-8") >>= fun _ => mkStr (PySem.Str.ofString "utf-8") >>= fun e => mkStr (PySem.Str.ofString "replace") >>= fun er => mkStr (PySem.Str.ofString "bytes.decode") >>= fun d =>
    call (.builtin "_codecs.decode.text") [.bytes (c :: cs).toArray t, e, er, d] >>= fun v => ret v) := by kernel_rfl
theorem dec_eq0 : «bytes.decode» ⟨[.bytes #[] t, .str (PySem.Str.ofString "utf-8") u], []⟩ = (rule "bytes.decode.empty" >>= fun _ => mkStr (PySem.Str.ofString "") >>= fun v => ret v) := by kernel_rfl
theorem road_eqR {id : String} : _codecs.decodeRoad id b (PySem.Str.ofString "utf-8") (some (PySem.Str.ofString "replace")) [] = (_codecs.runDecoder id _codecs.utf8Decoder (some (PySem.Str.ofString "replace")) true b 0 [] >>= fun r => mkStr ⟨r.1⟩) := by kernel_rfl
end
theorem args_dec2 (a b : Value) : argsOk "bytes.decode" ⟨[a, b], []⟩ := by unfold argsOk; kernel_rfl
theorem args_decR (a b c : Value) : argsOk "bytes.decode" ⟨[a, b], [(PySem.Str.ofString "errors", c)]⟩ := by unfold argsOk; kernel_rfl
section
variable {b : Array UInt8} {c : UInt8} {cs : List UInt8} {t u v : Tok} {x : PySem.Str} {n : Nat}
theorem meets_textR {ta tb tc : Tok} {d : PySem.Str} (hd : ∀ id, _codecs.runDecoder id _codecs.utf8Decoder (some (PySem.Str.ofString "replace")) true b 0 [] = pure (x.cps, n)) :
    Meets («_codecs.decode.text» ⟨[.bytes b ta, .str (PySem.Str.ofString "utf-8") tb, .str (PySem.Str.ofString "replace") tc, .str d t], []⟩) (fun _ R s => x.length ≤ sizeLine ∧ R (.ok (.ret (.str x s.toks))) { s with toks := s.toks + 1 }) := by
  refine .of_wp fun prog w A R s hS => ?_
  obtain ⟨hsz, h⟩ := hS
  show wpAny _ _ (Bytes.bytesLike _ (.bytes b ta) >>= fun r => _) _ _ s
  refine wpAny_bind (wpAny_of_eq KBd.like_eq ?_)
  refine wpAny_bind (wpAny_of_eq KBd.held_eq ?_)
  show wpAny _ _ (_codecs.decodeRoad _ b (PySem.Str.ofString "utf-8") (some (PySem.Str.ofString "replace")) [] >>= fun v => _) _ _ s
  rw [road_eqR, hd]
  refine wpAny_bind (wpAny_bind (wpAny_pure ?_))
  exact wpAny_mkStr (wpAny_pure ⟨_, rfl, h⟩) hsz
end
/-- how octets are read as a text -/
def Dec (B : List UInt8) (x : PySem.Str) : Prop := ∀ (prog : Program) (w : World) (A : Around) (E : Value → Shared → Prop) (Q : Value → Shared → Prop) (s : Shared) (t u : Tok), (∀ t' k, Q (.str x t') { s with toks := k }) →
  wpAny (model prog w) A (call (.builtin "bytes.decode") [.bytes B.toArray t, .str (PySem.Str.ofString "utf-8") u]) Q E s
def DecR (B : List UInt8) (x : PySem.Str) : Prop := ∀ (prog : Program) (w : World) (A : Around) (E : Value → Shared → Prop) (Q : Value → Shared → Prop) (s : Shared) (t u v : Tok), (∀ t' k, Q (.str x t') { s with toks := k }) →
  wpAny (model prog w) A (call (.builtin "bytes.decode") [.bytes B.toArray t, .str (PySem.Str.ofString "utf-8") u] [(PySem.Str.ofString "errors", .str (PySem.Str.ofString "replace") v)]) Q E s
section
variable {c : UInt8} {cs : List UInt8} {x : PySem.Str} {n : Nat}
theorem dec_some (hd : ∀ id, _codecs.runDecoder id _codecs.utf8Decoder none true (c :: cs).toArray 0 [] = pure (x.cps, n)) (hsz : x.length ≤ 16777216) : Dec (c :: cs) x := by
  intro prog w A E Q s t u h
  refine wpAny_call_entry FB.slot_bytes_decode (typeIs_bytes _ _ _) FB.entry_bytes_decode ?_ (args_dec2 _ _)
  rw [dec_eq1]
  refine wpAny_bind (wpAny_mkStr ?_ (by decide))
  refine wpAny_bind (wpAny_mkStr ?_ (by decide))
  refine wpAny_bind (wpAny_mkStr ?_ (by decide))
  exact wpAny_bind (call_function_meets KBd.kind_text KBd.plain_text KBd.entry_text (KBd.args_text _ _ _ _) (KBd.meets_text hd) ⟨by rw [sizeLine_eq]; exact hsz, wpAny_pure ⟨_, rfl, h _ _⟩⟩)
theorem dec_none : Dec [] (PySem.Str.ofString "") := by
  intro prog w A E Q s t u h
  refine wpAny_call_entry FB.slot_bytes_decode (typeIs_bytes _ _ _) FB.entry_bytes_decode ?_ (args_dec2 _ _)
  show wpAny _ _ («bytes.decode» ⟨[.bytes #[] t, .str (PySem.Str.ofString "utf-8") u], []⟩) _ _ _
  rw [dec_eq0]
  refine wpAny_bind (wpAny_rule (wpAny_bind (wpAny_mkStr (wpAny_pure ⟨_, rfl, h _ _⟩) (by decide))))
theorem decR_some (hd : ∀ id, _codecs.runDecoder id _codecs.utf8Decoder (some (PySem.Str.ofString "replace")) true (c :: cs).toArray 0 [] = pure (x.cps, n)) (hsz : x.length ≤ 16777216) : DecR (c :: cs) x := by
  intro prog w A E Q s t u v h
  refine wpAny_call_entry_kw FB.slot_bytes_decode (typeIs_bytes _ _ _) FB.entry_bytes_decode ?_ (args_decR _ _ _)
  rw [dec_eq2]
  refine wpAny_bind (wpAny_mkStr ?_ (by decide))
  refine wpAny_bind (wpAny_mkStr ?_ (by decide))
  refine wpAny_bind (wpAny_mkStr ?_ (by decide))
  refine wpAny_bind (wpAny_mkStr ?_ (by decide))
  exact wpAny_bind (call_function_meets KBd.kind_text KBd.plain_text KBd.entry_text (KBd.args_text _ _ _ _) (meets_textR hd) ⟨by rw [sizeLine_eq]; exact hsz, wpAny_pure ⟨_, rfl, h _ _⟩⟩)
end
theorem dec_oct : ∀ i, Dec (octB i) (octT i)
  | 0 => dec_none
  | 1 => dec_some (n := 1) (x := PySem.Str.ofString "a") (fun _ => by kernel_rfl) (by decide)
  | 2 => dec_some (n := 4) (x := PySem.Str.ofString "b\r\nc") (fun _ => by kernel_rfl) (by decide)
  | 3 => dec_some (n := 2) (x := PySem.Str.ofString "é") (fun _ => by kernel_rfl) (by decide)
  | 4 => dec_some (n := 2) (x := PySem.Str.ofString "$3") (fun _ => by kernel_rfl) (by decide)
  | 5 => dec_some (n := 2) (x := PySem.Str.ofString "-1") (fun _ => by kernel_rfl) (by decide)
  | _ + 6 => dec_some (n := 4) (x := PySem.Str.ofString "*2\r\n") (fun _ => by kernel_rfl) (by decide)
theorem dec_line : ∀ i, Dec (lineB i) (lineT i)
  | 0 => dec_none
  | 1 => dec_some (n := 2) (x := PySem.Str.ofString "OK") (fun _ => by kernel_rfl) (by decide)
  | 2 => dec_some (n := 2) (x := PySem.Str.ofString " x") (fun _ => by kernel_rfl) (by decide)
  | _ + 3 => dec_some (n := 1) (x := PySem.Str.ofString "1") (fun _ => by kernel_rfl) (by decide)
theorem dec_err : ∀ i, DecR (errB i) (errT i)
  | 0 => decR_some (n := 6) (x := PySem.Str.ofString "ERR no") (fun _ => by kernel_rfl) (by decide)
  | 1 => decR_some (n := 4) (x := PySem.Str.ofString "oops") (fun _ => by kernel_rfl) (by decide)
  | 2 => decR_some (n := 13) (x := PySem.Str.ofString "WRONGTYPE a b") (fun _ => by kernel_rfl) (by decide)
  | _ + 3 => decR_some (n := 3) (x := PySem.Str.ofString "ERR") (fun _ => by kernel_rfl) (by decide)
section
variable {M : Model} {A : Around} {E : Value → Shared → Prop} {s : Shared} {env : Env}
theorem callWith_kwM {pos : Pos} {id : String} {first : List Value} {e : Expr} {rest : List Expr} {kws : List Keyword} {Q : Value → Shared → Prop}
    (h : wpAny M A (spliced (backTo pos (starEach (e :: rest) env))) (fun vs s₁ => wpAny M A (evalAll ((backToKw pos (keywordEach kws env)).map (·.2)))
      (fun kvs s₂ => wpAny M A (call (.builtin id) (first ++ vs) (((backToKw pos (keywordEach kws env)).filterMap (·.1)).zip kvs)) Q E s₂) E s₁) E s)
    (he : backTo pos (starEach (e :: rest) env) = (false, eval e env) :: backTo pos (starEach rest env) := by rfl)
    (hplain : (backTo pos (starEach (e :: rest) env)).any (·.1) = false := by rfl)
    (hall : (backToKw pos (keywordEach kws env)).all (·.1.isSome) = true := by rfl)
    (hkw : (backToKw pos (keywordEach kws env)).any (·.1.isNone) = false := by rfl) :
    wpAny M A (callWith pos (.builtin id) first (backTo pos (starEach (e :: rest) env)) (backToKw pos (keywordEach kws env))) Q E s := by
  refine callWith_builtin_kwB hplain hkw ?_
  rw [he] at h ⊢
  exact evalArgs_kwB hall h
end
end Mine
end EzDec
section EzEnc
open PySem PySem.W PyProof.Rows PySem.Calls Builtin
set_option maxRecDepth 100000
set_option maxHeartbeats 1000000
namespace Mine
section
variable {prog : Program} {w : World} {A : Around} {E : Value → Shared → Prop} {s : Shared} {Q : Array UInt8 → Shared → Prop}
theorem low_ok {c : Nat} (h : c < 128) : _codecs.utf8Codec.bad c = false ∧ _codecs.utf8Codec.bytesOf c = [c.toUInt8] := by
  constructor
  · show (decide (0xD800 ≤ c) && decide (c ≤ 0xDFFF)) = false
    have : ¬ 0xD800 ≤ c := by omega
    simp [this]
  · show Str.utf8Of c = _
    unfold Str.utf8Of
    rw [if_pos h]
theorem fold_low : ∀ (l : List Nat) (acc : Array UInt8), (∀ c ∈ l, c < 128) → l.foldl (fun acc y => acc ++ (_codecs.utf8Codec.bytesOf y).toArray) acc = acc ++ (l.map Nat.toUInt8).toArray
  | [], acc, _ => by simp
  | c :: l, acc, h => by
    rw [List.foldl_cons, fold_low l _ (fun c hc => h c (.tail _ hc)), (low_ok (h c (.head _))).2]
    simp
theorem enc_loop {id : String} {self : Value} {x : PySem.Str} (hc : ∀ c ∈ x.cps.toList, c < 128) (hlen : x.length ≤ 1000) (h : Q (x.cps.toList.map Nat.toUInt8).toArray s) :
    wpAny (model prog w) A (_codecs.encodeNarrow id _codecs.utf8Codec none self x) Q E s := by
  unfold _codecs.encodeNarrow
  dsimp only
  refine wpAny_bind ?_
  rw [Std.Legacy.Range.forIn_eq_forIn_range']
  have hfind : Array.findIdx? _codecs.utf8Codec.bad x.cps = none := by
    rw [Array.findIdx?_eq_none_iff]
    intro c hm
    simp [(low_ok (hc c (by simpa using hm))).1]
  have hz : ((x.cps.toList.map Nat.toUInt8).toArray).size = x.length := by simp [Str.length]
  refine wpAny_forIn_list _ (fun rest b s' => s' = s ∧ ((b.1 = 0 ∧ b.2.1 = #[] ∧ (rest = [] → x.length = 0)) ∨ (b.1 = x.length ∧ b.2.1 = (x.cps.toList.map Nat.toUInt8).toArray))) _ ?_ ?_ _ _ ?_
  · rintro _ rest ⟨i, out, st⟩ s' ⟨rfl, ⟨hi, ho, _⟩ | ⟨hi, ho⟩⟩
    · dsimp only at hi ho
      subst hi ho
      rw [if_neg (by simp)]
      cases hx : x.cps[0]? with
      | none =>
        have h0 : x.cps.size = 0 := by
          rw [Array.getElem?_eq_none_iff] at hx; omega
        have h1 : x.cps.toList = [] := by
          rw [← List.length_eq_zero_iff, Array.length_toList]; exact h0
        rw [h1] at h
        dsimp only
        exact wpAny_pure (wpAny_pure h)
      | some c =>
        dsimp only
        have hcm : c ∈ x.cps.toList := by
          have := Array.mem_of_getElem? hx
          simpa using this
        rw [(low_ok (hc c hcm)).1, if_pos (by rfl)]
        have hext : x.cps.extract 0 x.cps.size = x.cps := by simp
        rw [hext, hfind]
        refine wpAny_pure ⟨rfl, .inr ⟨?_, ?_⟩⟩
        · show 0 + x.cps.size = x.length
          simp [Str.length]
        · show Array.foldl _ #[] (x.cps.extract 0 x.cps.size) = _
          rw [hext, ← Array.foldl_toList, fold_low _ _ hc]
          simp
    · dsimp only at hi ho
      subst hi ho
      rw [if_neg (by rw [hz, sizeLine_eq]; omega)]
      have hx : x.cps[x.length]? = none := by
        rw [Array.getElem?_eq_none_iff]; exact Nat.le_refl _
      rw [hx]
      dsimp only
      exact wpAny_pure (wpAny_pure h)
  · rintro ⟨i, out, st⟩ s' ⟨rfl, ⟨hi, ho, hr⟩ | ⟨hi, ho⟩⟩
    · dsimp only at hi ho ⊢
      have h1 : x.cps.toList = [] := by
        rw [← List.length_eq_zero_iff, Array.length_toList]; exact hr rfl
      rw [h1] at h
      rw [ho]
      exact wpAny_pure h
    · dsimp only at hi ho ⊢
      rw [ho]
      exact wpAny_pure h
  · refine ⟨rfl, .inl ⟨rfl, rfl, fun q => ?_⟩⟩
    simpa using q
end
section
variable {x : PySem.Str} {t u : Tok}
theorem enc_eq : «str.encode» ⟨[.str x t, .str (PySem.Str.ofString "utf-8") u], []⟩ = (_codecs.encodeRoad "str.encode" (.str x t) x (PySem.Str.ofString "utf-8") none >>= fun v => ret v) := by kernel_rfl
theorem args_enc (a b : Value) : argsOk "str.encode" ⟨[a, b], []⟩ := by unfold argsOk; kernel_rfl
end
/-- how a text is written as octets -/
def Enc (x : PySem.Str) (B : List UInt8) : Prop := ∀ (prog : Program) (w : World) (A : Around) (E : Value → Shared → Prop) (Q : Value → Shared → Prop) (s : Shared) (t u : Tok), (∀ t' k, Q (.bytes B.toArray t') { s with toks := k }) →
  wpAny (model prog w) A (call (.builtin "str.encode") [.str x t, .str (PySem.Str.ofString "utf-8") u]) Q E s
theorem enc_of {x : PySem.Str} {B : List UInt8} (hl : B.length ≤ 1000) (h : ∀ (prog : Program) (w : World) (A : Around) (E : Value → Shared → Prop) (Q : Array UInt8 → Shared → Prop) (s : Shared) (self : Value), Q B.toArray s → wpAny (model prog w) A (_codecs.encodeNarrow "str.encode" _codecs.utf8Codec none self x) Q E s) : Enc x B := by
  intro prog w A E Q s t u hQ
  refine wpAny_call_entry F.slot_str_encode (typeIs_str _ _ _) F.entry_str_encode ?_ (args_enc _ _)
  rw [enc_eq, encodeRoad_utf8]
  refine wpAny_bind (wpAny_bind (h _ _ _ _ _ _ _ ?_))
  exact wpAny_mkBytes (wpAny_pure ⟨_, rfl, hQ _ _⟩) (by rw [List.size_toArray, sizeLine_eq]; omega)
theorem enc_low {x : PySem.Str} (hc : ∀ c ∈ x.cps.toList, c < 128) (hlen : x.length ≤ 1000) : Enc x (x.cps.toList.map Nat.toUInt8) :=
  enc_of (by rw [List.length_map, Array.length_toList]; exact hlen) fun _ _ _ _ _ _ _ hq => enc_loop hc hlen hq
theorem enc_at {x : PySem.Str} {B : List UInt8} (hc : ∀ c ∈ x.cps.toList, c < 128) (hlen : x.length ≤ 1000) (e : x.cps.toList.map Nat.toUInt8 = B) : Enc x B := e ▸ enc_low hc hlen
theorem enc_num {z : Int} (h1 : -(10 ^ 9) < z) (h2 : z < 10 ^ 9) : Enc (txt z) (nb z) := by
  refine enc_low (fun c hc => ?_) ?_
  · have := txt_signs z c hc; omega
  · have := (nb_len h1 h2).2
    unfold nb at this
    rw [List.length_map, Array.length_toList] at this
    exact Nat.le_trans this (by decide)
theorem enc_oct : ∀ i, Enc (octT i) (octB i)
  | 0 => enc_at (by decide) (by decide) (by decide)
  | 1 => enc_at (by decide) (by decide) (by decide)
  | 2 => enc_at (by decide) (by decide) (by decide)
  | 3 => enc_of (by decide) fun prog w A E Q s self h => by
    refine wpAny_of_eq (show _ = (pure #[195, 169] : Sem (Array UInt8)) by kernel_rfl) ?_
    exact h
  | 4 => enc_at (by decide) (by decide) (by decide)
  | 5 => enc_at (by decide) (by decide) (by decide)
  | _ + 6 => enc_at (x := octT 6) (B := octB 6) (by decide) (by decide) (by decide)
theorem enc_line : ∀ i, Enc (lineT i) (lineB i)
  | 0 => enc_at (by decide) (by decide) (by decide)
  | 1 => enc_at (by decide) (by decide) (by decide)
  | 2 => enc_at (by decide) (by decide) (by decide)
  | _ + 3 => enc_at (x := lineT 3) (B := lineB 3) (by decide) (by decide) (by decide)
theorem enc_err : ∀ i, Enc (errT i) (errB i)
  | 0 => enc_at (by decide) (by decide) (by decide)
  | 1 => enc_at (by decide) (by decide) (by decide)
  | 2 => enc_at (by decide) (by decide) (by decide)
  | _ + 3 => enc_at (x := errT 3) (B := errB 3) (by decide) (by decide) (by decide)
end Mine
end EzEnc
section EzBase
open PySem PySem.W PyProof.Rows PySem.Calls
set_option maxRecDepth 100000
namespace Mine
section
variable {prog : Program} {w : World} {A : Around} {E : Value → Shared → Prop} {s : Shared} {value slice : PySem.Expr} {h₀ : Heap} {L D : Addr} {m : Str → Option Value} {n : Nat} {u : Tok} {Q : Value → Shared → Prop} {x y : Value} {xs : List Value}
theorem enc_method {x : PySem.Str} {t : Tok} {pl : Sem Bool} {Q : Value × List Value → Shared → Prop} (h : Q (.builtin "str.encode", [.str x t]) s) : wpAny (model prog w) A (getMethod (.str x t) "encode" pl) Q E s := by
  with_reducible exact getMethod_builtin (typeIs_str _ _ _) F.plainAttrs_str F.slot_str_encode F.type_str_encode (fun _ e => nomatch e) h
theorem base_list {items : List Value} (F : Fr h₀ L s.heap m) (e : h₀.get? D = some (listOf items.toArray n)) : s.heap.IsList D items.toArray := ⟨_, F.keep _ _ e, rfl, _, rfl⟩
theorem item_base {k : Int} {items : List Value} {v : Value} (F : Fr h₀ L s.heap m) (e : h₀.get? D = some (listOf items.toArray n)) (h0 : 0 ≤ k) (hk : k < 2 ^ 63) (hv : items[k.toNat]? = some v) (h : Q v s)
    (hs : subscripted slice false (.ref D) (.int k u) = operate [.ref D, .int k u] (getItem (.ref D) (.int k u))) :
    wpAny (model prog w) A (subscriptTail value slice (.ref D) (.int k u)) Q E s :=
  tail_any (base_list F e).typeIs slot_list_getitem.lookup (wpAny_getItem_list (base_list F e) h0 hk (by simp [hv]) h) hs
theorem item_base0 (F : Fr h₀ L s.heap m) (e : h₀.get? D = some (listOf (List.toArray (x :: xs)) n)) (hs : subscripted slice false (.ref D) (.int 0 u) = operate [.ref D, .int 0 u] (getItem (.ref D) (.int 0 u))) (h : Q x s) :
    wpAny (model prog w) A (subscriptTail value slice (.ref D) (.int 0 u)) Q E s := item_base F e (by decide) (by decide) rfl h hs
theorem item_base1 (F : Fr h₀ L s.heap m) (e : h₀.get? D = some (listOf (List.toArray (x :: y :: xs)) n)) (hs : subscripted slice false (.ref D) (.int 1 u) = operate [.ref D, .int 1 u] (getItem (.ref D) (.int 1 u))) (h : Q y s) :
    wpAny (model prog w) A (subscriptTail value slice (.ref D) (.int 1 u)) Q E s := item_base F e (by decide) (by decide) rfl h hs
theorem len_base {items : List Value} (F : Fr h₀ L s.heap m) (e : h₀.get? D = some (listOf items.toArray n)) (hl : items.length < 1000) (h : ∀ t k, Q (.int ((items.length : Nat) : Int) t) { s with toks := k }) :
    wpAny (model prog w) A (call (.builtin "len") [.ref D]) Q E s := by
  refine len_list (base_list F e) (by rw [List.size_toArray]; omega) ?_
  have := h (s.toks + 1) (s.toks + 1 + 1)
  simpa using this
end
theorem wr_len : ∀ (d : Nat) (V : Vl), Wf d V → V.wr.length ≤ 40 * 4 ^ d := by
  intro d V h
  have hp : ∀ d : Nat, 1 ≤ 4 ^ d := fun d => Nat.one_le_pow _ _ (by decide)
  induction h with
  | @list d xs hl _ ih =>
    have hw : ∀ (l : List Vl), (∀ x ∈ l, x.wr.length ≤ 40 * 4 ^ d) → (wrs l).length ≤ l.length * (40 * 4 ^ d) := by
      intro l
      induction l with
      | nil => intro _; simp [wrs]
      | cons x l ihl =>
        intro hx
        have h1 := hx x (.head _)
        have h2 := ihl fun y hy => hx y (.tail _ hy)
        rw [wrs, List.length_append, List.length_cons, Nat.succ_mul]
        omega
    have h1 := hw xs ih
    have h2 : xs.length * (40 * 4 ^ d) ≤ 3 * (40 * 4 ^ d) := Nat.mul_le_mul_right _ (by omega)
    have h3 := (nb_len (n := ((xs.length : Nat) : Int)) (by omega) (by omega)).2
    have h4 := hp d
    have h5 : (4 : Nat) ^ (d + 1) = 4 * 4 ^ d := by rw [Nat.pow_succ, Nat.mul_comm]
    rw [h5]
    simp only [Vl.wr, List.length_append, List.length_cons]
    omega
  | @null d => have := hp d; simp only [Vl.wr, List.length_append, List.length_cons, List.length_nil]; omega
  | @non d => have := hp d; simp only [Vl.wr, List.length_append, List.length_cons, List.length_nil]; omega
  | @num d z a b => have := hp d; have h3 := (nb_len (n := z) (by omega) (by omega)).2; simp only [Vl.wr, List.length_append, List.length_cons, List.length_nil]; omega
  | @line d i => have := hp d; have h3 : (lineB i).length < 10 := by { unfold lineB; split <;> decide }; simp only [Vl.wr, List.length_append, List.length_cons, List.length_nil]; omega
  | @err d i => have := hp d; have h3 : (errB i).length < 20 := by { unfold errB; split <;> decide }; simp only [Vl.wr, List.length_append, List.length_cons, List.length_nil]; omega
  | @oct d i => have := hp d; have h3 : (octB i).length < 10 := by { unfold octB; split <;> decide }; have h4 := (nb_len (n := (((octB i).length : Nat) : Int)) (by omega) (by omega)).2; simp only [Vl.wr, List.length_append, List.length_cons, List.length_nil]; omega
end Mine
end EzBase
section EzLw1
open PySem PySem.W PyProof.Rows PySem.Calls
namespace Mine
set_option maxRecDepth 100000
set_option maxHeartbeats 1000000
local macro_rules | `(tactic| k_in) => `(tactic| first | k_in_fast | exact Frag.In.keeps (by k_asm) (Fr.keep (by k_asm)))
local macro_rules | `(tactic| k_room) => `(tactic| ktr_room)
local macro_rules | `(tactic| k_units) => `(tactic| ktr_units)
local macro_rules | `(tactic| k_fill) => `(tactic| (k_with_none; (k_with "eval Name" => (k_here; k_dflt (first | (refine' nameX_K ?F ?X ?T ?e ?_ ?a ?b ?c; (case F => k_asm); (case X => k_asm); (case T => k_asm); (case e => k_is); (case a => kernel_rfl); (case b => kernel_rfl); (case c => kernel_rfl); k_whole) | (refine' nameX_C ?N ?h ?m ?d ?_ ?a ?b ?c; (case h => rfl); (case N => k_asm); (case m => k_mem); (case d => k_asm); (case a => kernel_rfl); (case b => kernel_rfl); (case c => kernel_rfl); k_whole) | (refine' nameX_L ?F ?v ?_ ?a ?b ?c; (case F => k_asm); (case v => rfl); (case a => kernel_rfl); (case b => kernel_rfl); (case c => kernel_rfl); k_whole) | (refine' nameX_B ?F ?X ?T ?e ?v ?n ?_ ?a ?b ?c; (case F => k_asm); (case X => k_asm); (case T => k_asm); (case e => k_is); (case v => boot_fast); (case n => decide); (case a => kernel_rfl); (case b => kernel_rfl); (case c => kernel_rfl); k_whole)))); (k_with "ite" => (k_closed; first | (refine ite_pos ?h ?_; (case h => k_dflt (decide +kernel))) | (refine ite_neg ?h ?_; (case h => k_dflt (decide +kernel))))); (k_with "eval Call" => (k_here; (with_reducible show wpAny _ _ (eval (Expr.Call (Expr.Name _ _) _ [] _) _) _ _ _); k_dflt (refine Call_ ?_))); (k_with "getMethod bytes" => (k_here; (with_reducible refine by_ends_method ?_))); (k_with "call builtin:bytes.endswith" => (k_here; refine by_ends ?_)); (k_with "binaryOp Add bytes bytes" => (k_here; (with_reducible show wpAny _ _ (binaryOp Operator.Add (Value.bytes _ _) (Value.bytes _ _)) _ _ _); (refine by_add (by first | omega | (simp only [List.length_append]; omega)) ?_); intro _ _)); (k_with "inplaceOp Add bytes bytes" => (k_here; (refine by_iadd (by first | omega | (simp only [List.length_append]; omega)) ?_); intro _ _)); (k_with "subscriptTail" => (k_here; (with_reducible show wpAny _ _ (subscriptTail _ _ (Value.bytes _ _) (Value.ref _)) _ _ _); k_dflt (refine' by_slice (s := ⟨_, _, _, _, _⟩) ?k1 ?k2 ?k3 ?k4 ?k5 ?_ ?k6 ?k7; (case k1 => k_asm); (case k2 => k_asm); (case k3 => constructor); (case k4 => constructor); (case k5 => first | omega | (simp only [List.length_append, List.length_cons, List.length_nil]; omega)); (case k6 => with_unfolding_all rfl); (case k7 => intro _; with_unfolding_all rfl); k_whole); intro h' t' tk' F' N'; (try k_sweep))); (k_with "call builtin:len" => (k_here; (with_reducible show wpAny _ _ (call (Value.builtin "len") [Value.bytes (List.toArray _) _]) _ _ _); (refine by_len (by first | omega | (simp only [List.length_append]; omega)) ?_); intro _ _))))
theorem enc_hyp {prog : Program} {w : World} {A : Around} {E : Value → Shared → Prop} {Q : Value → Shared → Prop} {s : Shared} {t u : Tok} {x : PySem.Str} {B : List UInt8} (e : Enc x B) (h : ∀ t' k, Q (.bytes B.toArray t') { s with toks := k }) :
  wpAny (model prog w) A (call (.builtin "str.encode") [.str x t, .str (PySem.Str.ofString "utf-8") u]) Q E s := e _ _ _ _ _ _ _ _ h
theorem lwE {b c : Array UInt8} {t : Tok} (h : b = c) : ∃ t', Value.bytes b t = .bytes c t' := ⟨t, by rw [h]⟩
def LW (w : World) (p : Program) (loose : List Str) (mean : ExcName → Option Value) (mg mb : Str → Option Value) (nn : Nat) (V : Vl) : Prop :=
  ∀ v : Value, DoesC (Mine.frag.heap_1 w.params) PySem.Challenge.rw_ez0337_01.row.prog w p loose mean mg mb nn 1139 [v] [] [] (fun g => Lay (fun a o => g.get? a = some o) V v) (fun _ r _ => ∃ t, r = .bytes (List.toArray V.wr) t)
local macro_rules | `(tactic| k_fill) => `(tactic| (k_with_none; (k_with "eval Name" => (k_here; k_dflt (first | (refine' nameX_K ?F ?X ?T ?e ?_ ?a ?b ?c; (case F => k_asm); (case X => k_asm); (case T => k_asm); (case e => k_is); (case a => kernel_rfl); (case b => kernel_rfl); (case c => kernel_rfl); k_whole) | (refine' nameX_C ?N ?h ?m ?d ?_ ?a ?b ?c; (case h => rfl); (case N => k_asm); (case m => k_mem); (case d => k_asm); (case a => kernel_rfl); (case b => kernel_rfl); (case c => kernel_rfl); k_whole) | (refine' nameX_L ?F ?v ?_ ?a ?b ?c; (case F => k_asm); (case v => rfl); (case a => kernel_rfl); (case b => kernel_rfl); (case c => kernel_rfl); k_whole) | (refine' nameX_B ?F ?X ?T ?e ?v ?n ?_ ?a ?b ?c; (case F => k_asm); (case X => k_asm); (case T => k_asm); (case e => k_is); (case v => boot_fast); (case n => decide); (case a => kernel_rfl); (case b => kernel_rfl); (case c => kernel_rfl); k_whole)))); (k_with "ite" => (k_closed; first | (refine ite_pos ?h ?_; (case h => k_dflt (decide +kernel))) | (refine ite_neg ?h ?_; (case h => k_dflt (decide +kernel))))); (k_with "eval Call" => (k_here; (with_reducible show wpAny _ _ (eval (Expr.Call (Expr.Name _ _) _ [] _) _) _ _ _); k_dflt (refine Call_ ?_))); (k_with "getMethod bytes" => (k_here; (with_reducible refine by_ends_method ?_))); (k_with "call builtin:bytes.endswith" => (k_here; refine by_ends ?_)); (k_with "binaryOp Add bytes bytes" => (k_here; (with_reducible show wpAny _ _ (binaryOp Operator.Add (Value.bytes _ _) (Value.bytes _ _)) _ _ _); (refine by_add (by first | omega | (simp only [List.length_append]; omega)) ?_); intro _ _)); (k_with "inplaceOp Add bytes bytes" => (k_here; (refine by_iadd (by first | omega | (simp only [List.length_append]; omega)) ?_); intro _ _)); (k_with "subscriptTail" => (k_here; (with_reducible show wpAny _ _ (subscriptTail _ _ (Value.bytes _ _) (Value.ref _)) _ _ _); k_dflt (refine' by_slice (s := ⟨_, _, _, _, _⟩) ?k1 ?k2 ?k3 ?k4 ?k5 ?_ ?k6 ?k7; (case k1 => k_asm); (case k2 => k_asm); (case k3 => constructor); (case k4 => constructor); (case k5 => first | omega | (simp only [List.length_append, List.length_cons, List.length_nil]; omega)); (case k6 => with_unfolding_all rfl); (case k7 => intro _; with_unfolding_all rfl); k_whole); intro h' t' tk' F' N'; (try k_sweep))); (k_with "call builtin:len" => (k_here; (with_reducible show wpAny _ _ (call (Value.builtin "len") [Value.bytes (List.toArray _) _]) _ _ _); (refine by_len (by first | omega | (simp only [List.length_append]; omega)) ?_); intro _ _)); (k_with "binaryOp Add bytes bytes" => (k_here; (with_reducible show wpAny _ _ (binaryOp Operator.Add (Value.bytes _ _) (Value.bytes _ _)) _ _ _); (refine by_add ?hz ?_; (case hz => (simp only [List.length_append, List.length_cons, List.length_nil]; omega))); intro _ _)); (k_with "getMethod str" => (k_here; (with_reducible refine enc_method ?_))); (k_with "subscriptTail Name Constant ref int" => (k_here; (with_reducible show wpAny _ _ (subscriptTail _ _ (Value.ref _) (Value.int 0 _)) _ _ _); k_dflt (refine' item_base0 ?F ?e ?hs ?_; (case F => k_asm); (case e => assumption); (case hs => with_unfolding_all rfl); k_whole))); (k_with "subscriptTail Name Constant ref int" => (k_here; (with_reducible show wpAny _ _ (subscriptTail _ _ (Value.ref _) (Value.int 1 _)) _ _ _); k_dflt (refine' item_base1 ?F ?e ?hs ?_; (case F => k_asm); (case e => assumption); (case hs => with_unfolding_all rfl); k_whole))); (k_with "call builtin:len" => (k_here; (with_reducible show wpAny _ _ (call (Value.builtin "len") [Value.ref _]) _ _ _); k_dflt (refine' len_base ?F ?e ?hl ?_; (case F => k_asm); (case e => assumption); (case hl => omega); k_whole); intro _ _)); (k_with "call builtin:str.encode" => (k_here; first | (with_reducible refine enc_hyp (by assumption) ?_) ; intro _ _))))
theorem lw_null (w : World) (p : Program) (loose : List Str) (mean : ExcName → Option Value) (mg mb : Str → Option Value)  : LW w p loose mean mg mb 4 .null := by
  intro v
  k_fill
  intro dp un gd outer base g A₀ s R B st X T hW hsz hPre hd hu kont
  unfold Lay at hPre
  obtain ⟨a, n, t, rfl, e1⟩ := hPre
  refine' enterC (binds := [("value", .ref a)]) st X T hW hsz ?ho ?hcd ?hroom ?hbind ?hloc ?_ ?c2 ?c3 ?c4 ?c5
  case ho => k_is
  case hcd => k_is
  case hroom => omega
  case hbind => exact BindsTo.of_eq rfl
  case hloc => exact locs rfl
  case c2 => rfl
  case c3 => rfl
  case c4 => rfl
  case c5 => decide
  intro L' h₁ F N hlt
  replace F : Fr g L' h₁ (fun y => List.lookup y [("value", .ref a)]) := F
  refine C_of ?_
  k_steps
  all_goals (try dsimp only)
  refine kont _ _ _ (Fr.keep (by assumption)) (lwE ?_)
  simp [Vl.wr]
theorem lw_non (w : World) (p : Program) (loose : List Str) (mean : ExcName → Option Value) (mg mb : Str → Option Value)  : LW w p loose mean mg mb 4 .non := by
  intro v
  k_fill
  intro dp un gd outer base g A₀ s R B st X T hW hsz hPre hd hu kont
  unfold Lay at hPre
  obtain ⟨a, n, t, rfl, e1⟩ := hPre
  refine' enterC (binds := [("value", .ref a)]) st X T hW hsz ?ho ?hcd ?hroom ?hbind ?hloc ?_ ?c2 ?c3 ?c4 ?c5
  case ho => k_is
  case hcd => k_is
  case hroom => omega
  case hbind => exact BindsTo.of_eq rfl
  case hloc => exact locs rfl
  case c2 => rfl
  case c3 => rfl
  case c4 => rfl
  case c5 => decide
  intro L' h₁ F N hlt
  replace F : Fr g L' h₁ (fun y => List.lookup y [("value", .ref a)]) := F
  refine C_of ?_
  k_steps
  all_goals (try dsimp only)
  refine kont _ _ _ (Fr.keep (by assumption)) (lwE ?_)
  simp [Vl.wr]
theorem lw_num (w : World) (p : Program) (loose : List Str) (mean : ExcName → Option Value) (mg mb : Str → Option Value) (z : Int) (hz1 : -(10 ^ 7 : Int) < z) (hz2 : z < 10 ^ 7) : LW w p loose mean mg mb 4 (.num z) := by
  intro v
  k_fill
  intro dp un gd outer base g A₀ s R B st X T hW hsz hPre hd hu kont
  unfold Lay at hPre
  obtain ⟨a, n, t, tx, rfl, e1⟩ := hPre
  refine' enterC (binds := [("value", .ref a)]) st X T hW hsz ?ho ?hcd ?hroom ?hbind ?hloc ?_ ?c2 ?c3 ?c4 ?c5
  case ho => k_is
  case hcd => k_is
  case hroom => omega
  case hbind => exact BindsTo.of_eq rfl
  case hloc => exact locs rfl
  case c2 => rfl
  case c3 => rfl
  case c4 => rfl
  case c5 => decide
  intro L' h₁ F N hlt
  replace F : Fr g L' h₁ (fun y => List.lookup y [("value", .ref a)]) := F
  have hE := enc_num (z := z) (by omega) (by omega)
  have hnl := nb_len (n := z) (by omega) (by omega)
  refine C_of ?_
  k_steps
  all_goals (try dsimp only)
  refine kont _ _ _ (Fr.keep (by assumption)) (lwE ?_)
  simp [Vl.wr]
theorem lw_line (w : World) (p : Program) (loose : List Str) (mean : ExcName → Option Value) (mg mb : Str → Option Value) (i : Nat) : LW w p loose mean mg mb 4 (.line i) := by
  intro v
  k_fill
  intro dp un gd outer base g A₀ s R B st X T hW hsz hPre hd hu kont
  unfold Lay at hPre
  obtain ⟨a, n, t, tx, rfl, e1⟩ := hPre
  refine' enterC (binds := [("value", .ref a)]) st X T hW hsz ?ho ?hcd ?hroom ?hbind ?hloc ?_ ?c2 ?c3 ?c4 ?c5
  case ho => k_is
  case hcd => k_is
  case hroom => omega
  case hbind => exact BindsTo.of_eq rfl
  case hloc => exact locs rfl
  case c2 => rfl
  case c3 => rfl
  case c4 => rfl
  case c5 => decide
  intro L' h₁ F N hlt
  replace F : Fr g L' h₁ (fun y => List.lookup y [("value", .ref a)]) := F
  have hE := enc_line i
  have hnl : (lineB i).length < 10 := by { unfold lineB; split <;> decide }
  refine C_of ?_
  k_steps
  all_goals (try dsimp only)
  refine kont _ _ _ (Fr.keep (by assumption)) (lwE ?_)
  simp [Vl.wr]
theorem lw_err (w : World) (p : Program) (loose : List Str) (mean : ExcName → Option Value) (mg mb : Str → Option Value) (i : Nat) : LW w p loose mean mg mb 4 (.err i) := by
  intro v
  k_fill
  intro dp un gd outer base g A₀ s R B st X T hW hsz hPre hd hu kont
  unfold Lay at hPre
  obtain ⟨a, n, t, tx, rfl, e1⟩ := hPre
  refine' enterC (binds := [("value", .ref a)]) st X T hW hsz ?ho ?hcd ?hroom ?hbind ?hloc ?_ ?c2 ?c3 ?c4 ?c5
  case ho => k_is
  case hcd => k_is
  case hroom => omega
  case hbind => exact BindsTo.of_eq rfl
  case hloc => exact locs rfl
  case c2 => rfl
  case c3 => rfl
  case c4 => rfl
  case c5 => decide
  intro L' h₁ F N hlt
  replace F : Fr g L' h₁ (fun y => List.lookup y [("value", .ref a)]) := F
  have hE := enc_err i
  have hnl : (errB i).length < 20 := by { unfold errB; split <;> decide }
  refine C_of ?_
  k_steps
  all_goals (try dsimp only)
  refine kont _ _ _ (Fr.keep (by assumption)) (lwE ?_)
  simp [Vl.wr]
theorem lw_oct (w : World) (p : Program) (loose : List Str) (mean : ExcName → Option Value) (mg mb : Str → Option Value) (i : Nat) : LW w p loose mean mg mb 4 (.oct i) := by
  intro v
  k_fill
  intro dp un gd outer base g A₀ s R B st X T hW hsz hPre hd hu kont
  unfold Lay at hPre
  obtain ⟨a, n, t, tx, rfl, e1⟩ := hPre
  refine' enterC (binds := [("value", .ref a)]) st X T hW hsz ?ho ?hcd ?hroom ?hbind ?hloc ?_ ?c2 ?c3 ?c4 ?c5
  case ho => k_is
  case hcd => k_is
  case hroom => omega
  case hbind => exact BindsTo.of_eq rfl
  case hloc => exact locs rfl
  case c2 => rfl
  case c3 => rfl
  case c4 => rfl
  case c5 => decide
  intro L' h₁ F N hlt
  replace F : Fr g L' h₁ (fun y => List.lookup y [("value", .ref a)]) := F
  have hnl : (octB i).length < 10 := by { unfold octB; split <;> decide }
  have hnl2 := nb_len (n := (((octB i).length : Nat) : Int)) (by omega) (by omega)
  have hE2 := enc_num (z := (((octB i).length : Nat) : Int)) (by omega) (by omega)
  have hE := enc_oct i
  refine C_of ?_
  k_steps
  all_goals (try dsimp only)
  refine kont _ _ _ (Fr.keep (by assumption)) (lwE ?_)
  simp [Vl.wr]
end Mine
end EzLw1
section EzCR3
open PySem PySem.W PyProof.Rows PySem.Calls
set_option maxRecDepth 100000
namespace Mine
section
variable {M : Model} {A : Around} {s : Shared} {env : Env}
theorem C_operate {vs : List Value} {t : Sem Value} {Q : Value → Shared → Prop} (h : wpC M A t Q s) : wpC M A (operate vs t) Q s :=
  fun Γ p hΓ hC => by rw [Sem.wp_operate]; exact h Γ p hΓ hC
theorem C_BinOp {l r : Expr} {op : Operator} {pos : Pos} {Q : Value → Shared → Prop}
    (h : wpAny M A (eval l env) (fun a s₁ => wpC M A (eval r env) (fun b s₂ => wpAny M A (binaryOp op a b) Q noE s₂) s₁) noE s) :
    wpC M A (eval (.BinOp l op r pos) env) Q s := by
  rw [eval_BinOp]
  exact C_bindK (wpAny_mono h (fun a s₁ h₁ => C_bind (C_holding (C_mono h₁ fun b s₂ h₂ => C_bind (C_standAt (C_operate (C_of h₂)))))) fun _ _ q => q)
end
theorem Lays.get {P : Addr → Obj → Prop} : ∀ {xs : List Vl} {vs : List Value} {i : Nat} {v : Value}, Lays P xs vs → vs[i]? = some v → ∃ V, xs[i]? = some V ∧ Lay P V v
  | [], [], _, _, _, h => by simp at h
  | x :: xs, u :: vs, 0, v, h, e => by
    unfold Lays at h
    simp at e
    subst e
    exact ⟨x, rfl, h.1⟩
  | x :: xs, u :: vs, i + 1, v, h, e => by
    unfold Lays at h
    simp at e
    obtain ⟨V, e1, e2⟩ := Lays.get h.2 e
    exact ⟨V, by simpa using e1, e2⟩
  | [], _ :: _, _, _, h, _ => by unfold Lays at h; exact h.elim
  | _ :: _, [], _, _, h, _ => by unfold Lays at h; exact h.elim
theorem Gots.get {P : Addr → Obj → Prop} {dec : Bool} : ∀ {xs : List Vl} {vs : List Value} {i : Nat} {V : Vl}, Gots P dec xs vs → xs[i]? = some V → ∃ v, vs[i]? = some v ∧ Got P dec V v
  | [], [], _, _, _, h => by simp at h
  | x :: xs, u :: vs, 0, v, h, e => by
    unfold Gots at h
    simp at e
    subst e
    exact ⟨u, rfl, h.1⟩
  | x :: xs, u :: vs, i + 1, v, h, e => by
    unfold Gots at h
    simp at e
    obtain ⟨V, e1, e2⟩ := Gots.get h.2 e
    exact ⟨V, by simpa using e1, e2⟩
  | [], _ :: _, _, _, h, _ => by unfold Gots at h; exact h.elim
  | _ :: _, [], _, _, h, _ => by unfold Gots at h; exact h.elim
theorem wrs_take {xs : List Vl} {i : Nat} {V : Vl} (h : xs[i]? = some V) : wrs (xs.take (i + 1)) = wrs (xs.take i) ++ V.wr := by
  rw [List.take_add_one, h, wrs_append]
  simp [wrs]
end Mine
namespace Mine
section
variable {M : Model} {A : Around} {s : Shared} {env : Env}
theorem C_IfW {test body orelse pos} {Q : Flow → Shared → Prop}
    (h : wpC M A (isTrue test env (eval test env)) (fun b s₂ => if b then wpC M A (execs body env) Q s₂ else wpC M A (execs orelse env) Q s₂) s) :
    wpC M A (exec (.If test body orelse pos) env) Q s := by
  rw [exec_If]
  refine C_bind (C_standAt (C_bind (C_mono h (fun b s₂ h₂ => ?_))))
  cases b <;> exact h₂
theorem C_isTrue_Not {x : Expr} {pos : Pos} {whole : Sem Value} {Q : Bool → Shared → Prop} (h : wpC M A (isTrue x env (eval x env)) (fun b s₁ => Q (!b) s₁) s) :
    wpC M A (isTrue (.UnaryOp .Not x pos) env whole) Q s := by
  rw [arm_isTrue_UnaryOp]
  exact C_bind (C_mono h (fun b s₁ h₁ => C_pure h₁))
theorem C_isTrue_Call {f : Expr} {args : List Expr} {kws : List Keyword} {pos : Pos} {whole : Sem Value} {Q : Bool → Shared → Prop} (h : wpC M A whole (fun v s₁ => wpAny M A (truthy v) Q noE s₁) s) :
    wpC M A (isTrue (.Call f args kws pos) env whole) Q s := by
  show wpC M A (do let v ← whole; standAt (Expr.Call f args kws pos).pos; holding [v] (truthy v)) Q s
  exact C_bind (C_mono h (fun v s₁ h₁ => C_bind (C_standAt (C_holding (C_of h₁)))))
end
section
variable {prog : Program} {w : World} {A : Around} {E : Value → Shared → Prop} {s : Shared} {value slice : PySem.Expr} {h₀ : Heap} {L D : Addr} {m : Str → Option Value} {n : Nat} {u : Tok} {Q : Value → Shared → Prop}
theorem item_baseN {i : Nat} {items : List Value} {v : Value} (F : Fr h₀ L s.heap m) (e : h₀.get? D = some (listOf items.toArray n)) (hv : items[i]? = some v) (hi : i < 100000) (hs : subscripted slice false (.ref D) (.int ((i : Nat) : Int) u) = operate [.ref D, .int ((i : Nat) : Int) u] (getItem (.ref D) (.int ((i : Nat) : Int) u))) (h : Q v s) :
    wpAny (model prog w) A (subscriptTail value slice (.ref D) (.int ((i : Nat) : Int) u)) Q E s :=
  item_base F e (by omega) (by omega) (by simpa using hv) h hs
end
end Mine
end EzCR3
section EzExc2
open PySem PySem.W PyProof.Rows PySem.Calls Builtin
set_option maxRecDepth 100000
set_option maxHeartbeats 1000000
namespace Mine
theorem slot_wd_get : Slot "wrapper_descriptor" "__get__" "wrapper_descriptor.__get__" :=
  .of (owner := "wrapper_descriptor") (n := "__get__") (by rw [typeLookup_type, builtinLookup_eq_fast]; kernel_rfl) (by decide +kernel) (by decide +kernel) (by decide +kernel)
    (by first | exact .inl (by decide +kernel) | exact .inr (by decide +kernel)) (by rw [isSubtype_type]; kernel_rfl)
theorem entry_wd_get : entryFor table "wrapper_descriptor.__get__" = some Builtin.«wrapper_descriptor.__get__» := entryFor_of_tree (by kernel_rfl)
theorem args_wd_get (a b c : Value) : argsOk "wrapper_descriptor.__get__" ⟨[a, b, c], []⟩ := by unfold argsOk; kernel_rfl
theorem type_exc_init : typeOf (.builtin "Exception.__init__") = pure (.type "wrapper_descriptor") := by show builtinType _ = _; rw [builtinType_eq_fast]; kernel_rfl
abbrev mwOb (x : Addr) : Obj := { cls := .type "method-wrapper", data := .fields #[.builtin "Exception.__init__", .ref x] }
abbrev supOb (D x C : Addr) : Obj := { cls := .type "super", dict := none, data := .fields #[.ref D, .ref x, .ref C], slots := #[] }
section
variable {M : Model} {A : Around} {E : Value → Shared → Prop} {h : Heap} {g : Array GenState} {d : Drawn} {t : Nat} {os : OsState} {x C : Addr}
theorem wd_check {Q : Unit → Shared → Prop} (hi : Looks M h (isInstance (.ref x) (.type "Exception")) true) (hq : Q () ⟨h, g, d, t, os⟩) :
    wpAny M A ((kfb_private% "checkInstance") (.builtin "Exception.__init__") (.ref x)) Q E ⟨h, g, d, t, os⟩ := by
  have e : (kfb_private% "nameAndClass") (.builtin "Exception.__init__") = (pure (("__init__" : PySem.Str), Value.type "Exception") : Sem (PySem.Str × Value)) := by kernel_rfl
  show wpAny _ _ ((kfb_private% "nameAndClass") (.builtin "Exception.__init__") >>= fun _ => _) _ _ _
  refine wpAny_bind (wpAny_of_eq e ?_)
  dsimp only
  refine wpAny_bind (hi.here ?_)
  simp only [Bool.not_true, Bool.false_eq_true, if_false]
  exact wpAny_pure hq
end
section
variable {prog : Program} {w : World} {A : Around} {E : Value → Shared → Prop} {h : Heap} {g : Array GenState} {d : Drawn} {t : Nat} {os : OsState} {x C D : Addr}
theorem wd_get {Q : Value → Shared → Prop} (hi : Looks (model prog w) h (isInstance (.ref x) (.type "Exception")) true) (hq : Q (.ref h.objs.size) ⟨h.push (mwOb x), g, d, t, os⟩) :
    wpAny (model prog w) A (call (.builtin "wrapper_descriptor.__get__") [.builtin "Exception.__init__", .ref x, .ref C]) Q E ⟨h, g, d, t, os⟩ := by
  refine wpAny_call_entry slot_wd_get (show (⟨h, g, d, t, os⟩ : Shared).TypeIs (.builtin "Exception.__init__") "wrapper_descriptor" from type_exc_init) entry_wd_get ?_ (args_wd_get _ _ _)
  show wpAny _ _ ((kfb_private% "getArgs") ⟨[.builtin "Exception.__init__", .ref x, .ref C], []⟩ >>= fun _ => _) _ _ _
  have e : (kfb_private% "getArgs") ⟨[.builtin "Exception.__init__", .ref x, .ref C], []⟩ = pure (Value.builtin "Exception.__init__", some (Value.ref x), some (Value.ref C)) := by kernel_rfl
  refine wpAny_bind (wpAny_of_eq e ?_)
  dsimp only
  show wpAny _ _ ((kfb_private% "checkInstance") (.builtin "Exception.__init__") (.ref x) >>= fun _ => _) _ _ _
  refine wpAny_bind (wd_check hi ?_)
  refine wpAny_bind ?_
  unfold newFields
  refine wpAny_newObj_type (wpAny_pure ⟨_, rfl, hq⟩) (by show (2 : Nat) ≤ sizeLine + 2; omega)
open Builtin in
theorem exc_super_ga {so : Addr} {l₀ l : List Value} {K : Frag} {tk : Tok} {Q : Fin → Shared → Prop}
    (hso : h.get? so = some (supOb D x C)) (hno : Looks (model prog w) h (opaqueClassAbove (.ref C)) none)
    (hC : Looks (model prog w) h (mroOf (.ref C)) l₀) (hl : (l₀.dropWhile (· != .ref D)).drop 1 = l) (X : K.In h)
    (hf : alongIn K "__init__" l = some (some (.builtin "Exception.__init__"))) (hxC : x ≠ C) (hi : Looks (model prog w) h (isInstance (.ref x) (.type "Exception")) true)
    (hq : Q (.done (.ret (.ref h.objs.size))) ⟨h.push (mwOb x), g, d, t, os⟩) :
    wpAny (model prog w) A (Builtin.«super.__getattribute__» ⟨[.ref so, .str "__init__" tk], []⟩) Q E ⟨h, g, d, t, os⟩ := by
  have hlk := slot_wd_get.lookup
  have hne : (Value.ref x == Value.ref C) = false := by simp [hxC]
  have hdt : (supOb D x C).data = .fields #[.ref D, .ref x, .ref C] := rfl
  have f0 : (#[.ref D, .ref x, .ref C] : Array Value)[0]? = some (.ref D) := rfl
  have f1 : (#[.ref D, .ref x, .ref C] : Array Value)[1]? = some (.ref x) := rfl
  have f2 : (#[.ref D, .ref x, .ref C] : Array Value)[2]? = some (.ref C) := rfl
  have hn : (("__init__" : PySem.Str) == ("__class__" : PySem.Str)) = false := by decide +kernel
  unfold Builtin.«super.__getattribute__»
  repeat (first
    | (with_reducible refine wpAny_field hso hdt f0 ?_) | (with_reducible refine wpAny_field hso hdt f1 ?_) | (with_reducible refine wpAny_field hso hdt f2 ?_)
    | (with_reducible refine ks_wpAny_notOpaque hno ?_)
    | (with_reducible refine Looks.at hC ?_; rw [hl])
    | (refine ks_forIn_along X (fun _ _ => rfl) rfl ?_ hf)
    | (with_reducible refine wpAny_of_eq type_exc_init ?_)
    | (with_reducible refine wpAny_of_eq hlk ?_)
    | (with_reducible refine wd_get hi ?_)
    | (with_reducible refine ⟨_, rfl, ?_⟩)
    | (simp only [hn, hne, Bool.or_false, Bool.false_eq_true, if_false])
    | wp_step
    | dsimp only)
  all_goals exact hq
end
end Mine
end EzExc2
section EzExc3
open PySem PySem.W PyProof.Rows PySem.Calls Builtin
set_option maxRecDepth 100000
set_option maxHeartbeats 1000000
namespace Mine
section
variable {prog : Program} {w : World} {A : Around} {E : Value → Shared → Prop} {h : Heap} {g : Array GenState} {d : Drawn} {t : Nat} {os : OsState} {x C D : Addr}
theorem exc_super_attr {so : Addr} {l₀ l : List Value} {K : Frag} {Q : Value → Shared → Prop}
    (hso : h.get? so = some (supOb D x C)) (hno : Looks (model prog w) h (opaqueClassAbove (.ref C)) none)
    (hC : Looks (model prog w) h (mroOf (.ref C)) l₀) (hl : (l₀.dropWhile (· != .ref D)).drop 1 = l) (X : K.In h)
    (hf : alongIn K "__init__" l = some (some (.builtin "Exception.__init__"))) (hxC : x ≠ C) (hi : Looks (model prog w) h (isInstance (.ref x) (.type "Exception")) true)
    (hq : Q (.ref h.objs.size) ⟨h.push (mwOb x), g, d, t + 1, os⟩) :
    wpAny (model prog w) A (getAttr (.ref so) "__init__" true) Q E ⟨h, g, d, t, os⟩ := by
  have hlk := F.ks_slot_super_ga.lookup
  have hT : ∀ t', (⟨h, g, d, t', os⟩ : Shared).TypeIs (.ref so) "super" := fun _ => ⟨_, hso, rfl⟩
  unfold getAttr getAttrBy
  refine wpAny_bind (wpAny_mkText (wpAny_holding (wpAny_bind (wpAny_typeOf (hT _) (wpAny_bind (wpAny_of_eq hlk ?_))))))
  show wpAny _ _ (getAttrByItsOwn (.ref so) (.str "__init__" t) (.type "super") (.builtin "super.__getattribute__") true true) _ _ _
  unfold getAttrByItsOwn hookBefore callGetattribute boundAndCalled
  refine wpAny_bind (wpAny_of_eq (show (if onTheHeap (.type "super") then typeLookup (.type "super") "__getattr__" else pure none) = pure none from rfl) ?_)
  refine wpAny_bind (wpAny_attempt (wpAny_holding ?_))
  show wpAny _ _ (bindSpecial (.builtin "super.__getattribute__") (.ref so) >>= _) _ _ _
  refine wpAny_bind (wpAny_of_eq (F.ks_slot_super_ga.bind _) ?_)
  refine wpAny_mono (Q := fun v s' => v = .ref h.objs.size ∧ s' = ⟨h.push (mwOb x), g, d, t + 1, os⟩) (E := fun _ _ => False)
    (wpAny_call_entry F.ks_slot_super_ga (hT _) F.ks_entry_super_ga (exc_super_ga hso hno hC hl X hf hxC hi ⟨_, rfl, rfl, rfl⟩) (F.ks_gaArgs_super _ _)) (fun v s' hv => ?_) fun _ _ z => z.elim
  obtain ⟨rfl, rfl⟩ := hv
  exact wpAny_pure hq
theorem star_MethodCall {M : Model} {c : Code} {s : Shared} {env : Env} {o : Expr} {name : PySem.Str} {apos pos : Pos} {args : List Expr} {Q : Value → Shared → Prop}
    (h : _root_.PySem.wpAt M A c (attributeBase o name env (eval o env)) (fun ov s₁ => wpAny M A (getAttr ov name true) (fun f s₂ => wpAny M A (callWith pos f [] (backTo pos (starEach args env)) []) Q E s₂) E s₁) E s)
    (he : eval (.Call (.Attribute o name apos) args [] pos) env = (do
      let ov ← attributeBase o name env (eval o env)
      standAt apos.atName
      let (f, first) ← holding [ov] (do pure (← getAttr ov name true, []))
      callWith pos f first (backTo pos (starEach args env)) []) := by rfl) :
    _root_.PySem.wpAt M A c (eval (.Call (.Attribute o name apos) args [] pos) env) Q E s := by
  rw [he]
  refine _root_.PySem.wpAt_bind (_root_.PySem.wpAt_mono h (fun ov s₁ h₁ => _root_.PySem.wpAt_of_wpAny (wpAny_bind (wpAny_standAt (wpAny_bind (wpAny_holding (wpAny_bind (wpAny_mono h₁ (fun f s₂ h₂ => wpAny_pure ?_) fun _ _ x => x))))))) fun _ _ x => x)
  exact h₂
/-- a wrapper called with a tuple's items -/
theorem star_callWith {s : Shared} {pos : Pos} {mw at' : Addr} {vs : List Value} {Q : Value → Shared → Prop} {e : Expr} {p : Pos} {env : Env}
    (h : wpAny (model prog w) A (eval e env) (fun v s₁ => v = .ref at' ∧ s₁.heap.get? at' = some (tupOb vs) ∧ s₁.heap.get? mw = some (mwOb x) ∧ vs.length ≤ sizeLine ∧
      ∀ h', (∀ b o, s₁.heap.get? b = some o → h'.get? b = some o) → wpAny (model prog w) A (call (.ref mw) vs) Q E { s₁ with heap := h' }) E s) :
    wpAny (model prog w) A (callWith pos (.ref mw) [] (backTo pos (starEach [.Starred e p] env)) []) Q E s := by
  unfold callWith
  refine wpAny_bind (wpAny_holding ?_)
  show wpAny _ _ (evalArgs (.ref mw) true [(true, do let v ← eval e env; standAt pos; pure v)] []) _ _ _
  unfold evalArgs
  dsimp only
  refine wpAny_bind (wpAny_bind (wpAny_mono h (fun v s₁ h₁ => ?_) fun _ _ x => x))
  obtain ⟨rfl, ha, hm, hsz, hc⟩ := h₁
  obtain ⟨hh, g, d, t, os⟩ := s₁
  have hT : (⟨hh, g, d, t, os⟩ : Shared).TypeIs (.ref at') "tuple" := ⟨_, ha, rfl⟩
  refine wpAny_bind (wpAny_standAt (wpAny_pure (wpAny_bind (wpAny_pure ?_))))
  dsimp only
  refine wpAny_holding ?_
  simp only [List.all_nil, if_true, List.map_nil, List.filterMap_nil]
  refine wpAny_bind (wpAny_pure ?_)
  dsimp only [List.zip_nil_left, List.map_nil]
  refine wpAny_bind ?_
  have hit : wpAny (model prog w) A (notIterableAtAll (.ref at')) (fun b s' => b = false ∧ s' = ⟨hh, g, d, t, os⟩) E ⟨hh, g, d, t, os⟩ := by
    unfold notIterableAtAll
    refine wpAny_bind (wpAny_specialOf hT (show typeLookup (.type "tuple") "__iter__" = pure (some (.builtin "tuple.__iter__")) by rw [typeLookup_type, builtinLookup_eq_fast]; kernel_rfl) ?_)
    exact wpAny_pure ⟨rfl, rfl⟩
  refine wpAny_bind (wpAny_mono hit (fun b s' hb => ?_) fun _ _ x => x)
  obtain ⟨rfl, rfl⟩ := hb
  simp only [Bool.false_eq_true, if_false]
  refine wpAny_holding (wpAny_collect_seq at' (.inr rfl) ha rfl rfl (fun h' hk => ?_) (by rw [List.size_toArray]; exact hsz))
  refine wpAny_pure ?_
  refine wpAny_bind (wpAny_standAt ?_)
  simp only [List.nil_append]
  have hkp : Looks (model prog w) h' (keeperOf (.ref mw)) .machine := (Looks.ld (hk _ _ hm)).andThen .now
  refine wpAny_bind (hkp.here ?_)
  have e1 : ((backTo pos (starEach [.Starred e p] env)).any fun x => x.1) = true := rfl
  rw [e1]
  (try dsimp only)
  refine wpAny_bind (wpAny_operate' (wpAny_mono (hc h' hk) (fun r s₂ hr => ?_) fun _ _ x => x))
  exact wpAny_bind (wpAny_holding (wpAny_point (wpAny_pure hr)))
end
section
variable {prog : Program} {w : World} {A : Around} {E : Value → Shared → Prop} {s : Shared} {e C : Addr}
/-- the wrapper is called: Exception.__init__ -/
theorem mw_call {mw t0 : Addr} {rest : List Value} {Q : Value → Shared → Prop} {oe : Obj} {vs : Array Value} (hmw : s.heap.get? mw = some (mwOb e)) (he : s.heap.get? e = some oe) (hcls : oe.cls = .ref C) (hd : oe.data = .fields vs) (h0 : vs[0]? = some (.ref t0))
    (h : Q .none { s with heap := (s.heap.push (tupOb rest)).update e (Obj.mapFields (·.setIfInBounds 0 (.ref s.heap.objs.size))) }) (hrest : rest.length ≤ sizeLine)
    {oc : Value} {od : Option Addr} {cd : ClassData} {sl : Array (Option Value)} (hC : s.heap.get? C = some ⟨oc, od, .cls cd, sl⟩) :
    wpAny (model prog w) A (call (.ref mw) rest) Q E s := by
  have Fn := PySem.F.excBase_Exception
  obtain ⟨hh, g, d, t, os⟩ := s
  refine wpAny_call (codeAny_of_tree ?_)
  show wpAny _ _ (callAny (.ref mw) ⟨rest, []⟩) _ _ _
  unfold callAny
  refine wpAny_bind (wpAny_load hmw ?_)
  dsimp only
  simp only [show (Value.type "method-wrapper" == Value.type "method" || Value.type "method-wrapper" == Value.type "builtin_function_or_method" || Value.type "method-wrapper" == Value.type "method-wrapper") = true by decide, if_true, show (Value.type "method-wrapper" != Value.type "method") = true by decide]
  show wpAny _ _ (checkBoundCall "Exception.__init__" ⟨.ref e :: rest, []⟩ >>= fun _ => again (.builtin "Exception.__init__" ⟨.ref e :: rest, []⟩)) _ _ _
  refine wpAny_bind ?_
  unfold checkBoundCall
  simp only [Fn.initKind, Fn.initRow]
  show wpAny _ _ (Bind.checkArgs "Exception.__init__" ⟨.positional, "*", "Exception", .self, [⟨"args", .varPos, false⟩]⟩ ⟨.ref e :: rest, []⟩) _ _ _
  have hshort := Fn.noStar
  unfold Bind.checkArgs
  repeat (first | (with_reducible refine wpAny_loadPart_at he ?_; rw [hcls]) | (with_reducible refine wpAny_loadPart_at hC ?_) | (with_reducible refine wpAny_load hC ?_) | wp_step)
  refine wpAny_onRaise ?_
  rw [show ∀ (a b : String) (n : Nat), Bind.check ⟨.positional, "*", "Exception", .self, [⟨"args", .varPos, false⟩]⟩ a b n (List.map (fun x => x.fst) ({ pos := Value.ref e :: rest } : Args).kw) = pure () from
    fun a b n => check_star_args _ _ _ _ _ _]
  refine wpAny_pure (wpAny_pure ⟨Code.quiet_builtin _ (by decide +kernel), codeAny_builtin Fn.initEntry ?_⟩)
  unfold Builtin.«BaseException.__init__»
  dsimp only
  rw [if_neg (by simp)]
  unfold newTuple Builtin.BaseException.bexcPut
  have hsz : 0 < vs.size := (Array.getElem?_eq_some_iff.mp h0).1
  have he₁ := Heap.get?_push_of_some (h := hh) (tupOb rest) he
  refine wpAny_bind (wpAny_newObj_type (wpAny_bind (wpAny_bind (wpAny_field he₁ hd h0 (wpAny_bind (wpAny_setField he₁ hd hsz ?_))))) (by show rest.toArray.size ≤ sizeLine; rw [List.size_toArray]; exact hrest))
  exact wpAny_letGo (wpAny_pure h)
end
section
variable {prog : Program} {w : World} {A : Around} {E : Value → Shared → Prop} {s : Shared} {K : Frag} {x C D t0 L : Addr} {h₀ : Heap} {m : PySem.Str → Option Value} {rest : List (Addr × Obj)} {R : Result → Shared → Prop}
open Builtin.ObjectAttr in
/-- a first attribute is set on an exception of the text's -/
theorem exc_set {name : PySem.Str} {v : Value} {Q : Unit → Shared → Prop} {cd : ClassData} (F : Fr h₀ L s.heap m) (N : News h₀ L s.heap ((x, excOb C t0) :: rest)) (hap : ∀ p ∈ rest, p.1 ≠ x) (X : K.In s.heap)
    (hs : findIn K (.ref C) "__setattr__" = some (some (.builtin "object.__setattr__"))) (hc : clsIn K C = some cd) (hm : cd.mro = .ref C :: .ref D :: excBm) (hd : cd.hasDict = true) (ht : takerIn K C name = some none)
    (h : ∀ dx od h' tk, Fr h₀ L h' m → News h₀ L h' ((dx, od) :: (x, excOb C t0 (some dx)) :: rest) → Q () { s with heap := h', toks := tk }) : wpAny (model prog w) A (setAttr (.ref x) name v) Q E s := by
  have hx := (N _ (.head _)).1
  have I : InstAt s.heap x (excOb C t0) C none := ⟨hx, rfl, rfl, trivial⟩
  refine set_plain X I hs ?_
  have SF := PySem.F.store_object
  have sub : Looks (model prog w) s.heap (isInstance (.ref x) (.type "object")) true := I.type.andThen (looks_mroIn X (by unfold mroIn; rw [hc, Option.bind_some, hm]; simp))
  refine codeAny_call_builtin SF.slot.plain SF.entry (@check_slot (model prog w) _ _ _ "object.__setattr__" "object" "__setattr__" (.ref x) [.str name s.toks, v] [] _ SF.kind SF.split sub (SF.args (.ref x) (.str name s.toks) v) ?_)
  obtain ⟨attr, ha, hr⟩ := Option.bind_eq_some_iff.mp ht
  have hmm : Looks (model prog w) s.heap (mroOf (.ref C)) cd.mro := (looks_clsIn X hc).andThen .now
  have L3 : Looks (model prog w) s.heap (storeTaker? attr) none := by
    cases attr with
    | none => cases hr; exact .now
    | some a =>
      obtain ⟨b, hb, hbb⟩ := Option.map_eq_some_iff.mp hr
      refine (looks_takesIn X hb).andThen ?_
      cases b
      · exact .now
      · cases hbb
  obtain ⟨hh, g, d, t, os⟩ := s
  dsimp only at F N hx I X L3 hmm sub ⊢
  rw [osa_eq, refuse_eq]
  refine wpAny_bind (wpAny_bind (I.type.here (wpAny_bind (hmm.here ?_))))
  rw [hm, refuseLoop_ref, refuseLoop_ref, PySem.F.store_Exception.passes]
  refine wpAny_pure (wpAny_bind (I.type.here (wpAny_bind ((looks_findIn X ha).here (wpAny_bind (L3.here ?_))))))
  dsimp only
  unfold storeInOwnDict
  refine wpAny_bind (wpAny_pure ?_)
  simp only [show (Value.ref C == Value.type "module") = false from rfl, Bool.false_eq_true, if_false]
  have hcd : Looks (model prog w) hh (PySem.classData C) cd := looks_clsIn X hc
  have FD := F.push emptyDict
  have ND := News.push F N emptyDict
  have hxs : x ≠ hh.objs.size := Nat.ne_of_lt (Heap.lt_size hx)
  obtain ⟨F1, N1⟩ := news_upd (f := fun o : Obj => { o with dict := some hh.objs.size }) (o' := excOb C t0 (some hh.objs.size)) (pre := [(hh.objs.size, emptyDict)]) FD ND
    (fun p hp => by rw [List.mem_singleton.mp hp]; exact hxs.symm) hap rfl rfl
  refine wpAny_bind ?_
  show wpAny _ _ (instanceDict x true) _ _ _
  unfold instanceDict
  refine wpAny_bind (wpAny_loadPart hx ?_)
  dsimp only
  refine wpAny_bind (hcd.here ?_)
  simp only [hd, Bool.not_true, Bool.false_eq_true, if_false]
  simp only [show typeHasDict (.ref C) = true from rfl, Bool.not_true, Bool.or_self, Bool.false_eq_true, if_false]
  refine wpAny_bind (wpAny_alloc ?_)
  refine wpAny_bind (wpAny_update' (Heap.get?_push_of_some _ hx) ?_)
  refine wpAny_pure ?_
  dsimp only
  have hgd := (N1 _ (.head _)).1
  have hnd : ((hh.push emptyDict).update x fun o => { o with dict := some hh.objs.size }).Ns hh.objs.size (fun _ => none) := ⟨_, #[], _, hgd, rfl, fun e he => absurd he (by simp), fun _ => rfl⟩
  show wpAny _ _ (storeInDict hh.objs.size (.str name t) name v) _ _ _
  unfold storeInDict newKeyGuard
  refine wpAny_bind (wpAny_pure (wpAny_bind (wpAny_nsSet1 (Heap.Ns1.of_empty hnd) fun h' hn' hs => ?_)))
  obtain ⟨oD, esD, epD, hoD, hdD, hcD⟩ := hn'.count (Within.cons name v Within.nil)
  refine wpAny_bind (wpAny_lookBehind hoD (by rw [hdD]; exact pastItsLine_dict (Nat.le_trans hcD (by rw [List.length_cons, List.length_nil, sizeLine_eq]; omega))) ?_)
  refine wpAny_pure ?_
  have zD := N1 _ (.head _)
  refine h hh.objs.size oD h' _ (F1.change hs zD.2.1 zD.2.2) fun p hp => ?_
  rcases List.mem_cons.mp hp with rfl | hp
  · exact ⟨hoD, zD.2.1, zD.2.2⟩
  · have z := N1 p (List.mem_cons_of_mem _ hp)
    refine ⟨(hs.2 p.1 ?_).trans z.1, z.2⟩
    rcases List.mem_cons.mp hp with rfl | hp
    · exact hxs
    · exact Nat.ne_of_lt (Heap.lt_size (N p (List.mem_cons_of_mem _ hp)).1)
end
end Mine
end EzExc3
section EzExc4
open PySem PySem.W PyProof.Rows PySem.Calls Builtin
set_option maxRecDepth 100000
set_option maxHeartbeats 1000000
namespace Mine
section
variable {K : Frag} {prog : Program} {w : World} {p : Program} {loose : List PySem.Str} {mean : ExcName → Option Value} {mg mb : PySem.Str → Option Value} {n : Nat} {f : Addr} {args : List Value} {kw : List (PySem.Str × Value)} {W : List (Addr × Obj)} {Pre : Heap → Prop} {Post : Heap → Value → Heap → Prop}
  {dp un : Nat} {gd : Option (List Code)} {outer : List Env} {base g : Heap} {A₀ : Around} {s : Shared} {R : Result → Shared → Prop}
/-- into a def of a class's that takes the rest of its arguments and knows its class -/
theorem enterVS {name qual : PySem.Str} {params : Arguments} {body : List Stmt} {scope : Scope} {dV kV doc pm cdv ct oc : Value} {an od : Option Addr} {osl : Array (Option Value)} {cc : Addr} {binds : Addr → List (PySem.Str × Value)} {vs : List Value}
    (st : g.StaysIn s.heap) (X : K.In g) (T : Top p loose mean mg mb g) (hW : ∀ q ∈ W, s.heap.get? q.1 = some q.2 ∧ g.get? q.1 = none) (hsz : g.objs.size ≤ s.heap.objs.size)
    (ho : K.lookup f = some ⟨oc, od, .func (ksFn name qual params body scope dV kV doc pm an cdv ct cc), osl⟩) (hcd : codeIn K cdv qual = true) (hroom : dp < recursionLimit)
    (hbind : ∀ (A : Around) (E : Value → Shared → Prop) (Q : List (PySem.Str × Value) → Shared → Prop), Q (binds s.heap.objs.size) { s with heap := s.heap.push (tupOb vs) } → wpAny (model prog w) A (bindArgs (ksFn name qual params body scope dV kV doc pm an cdv ct cc) ⟨args, kw⟩) Q E s)
    (hloc : ∀ t, ∀ y ∈ binds t, scope.names.lookup y.1 = some .local) (hlen : ∀ t, (binds t).length = n)
    (h : ∀ t L' h₁, Fr g L' h₁ (fun y => (binds t).reverse.lookup y) → News g L' h₁ ((t, tupOb vs) :: W) → (∀ q ∈ W, @LT.lt Nat _ q.1 t) →
      _root_.PySem.wpAt (model prog w) ((Ar dp un gd outer).deeper (ksEnv qual scope L' f cdv cc)) (.func body (ksEnv qual scope L' f cdv cc)) (execs body (ksEnv qual scope L' f cdv cc))
        (fun fl s' => R (.ok (.ret (match fl with | .ret v => v | _ => .none))) s') (fun _ _ => False)
        { s with heap := h₁, toks := s.toks + n })
    (hco : scope.isCoroutine = false) (hgen : scope.isGenerator = false) (hk : scope.kind = .function)
    (hcell : ∀ x ∈ scope.names, x.2 ≠ .cell) : codeAny (model prog w) (Ar dp un gd outer) (.call (.ref f) ⟨args, kw⟩) R s := by
  refine codeAny_call_function (fd := ksFn name qual params body scope dV kV doc pm an cdv ct cc) (body := body) hroom (st _ _ (X _ _ ho)) rfl hco hgen rfl (codeRec_of (X.keeps st) hcd) (hbind _ _ _ ?_)
  have up : ∀ b o, s.heap.get? b = some o → (s.heap.push (tupOb vs)).get? b = some o := fun b o e => Heap.get?_push_of_some _ e
  refine wpAny_newFunctionEnv hcell (hloc _) (fun h₀ hns₀ hsb₀ => ⟨((T.nolimit.keeps st).keeps up).fresh _ hsb₀, ?_⟩) hk
  dsimp only at hns₀ hsb₀ ⊢
  rw [hlen]
  have hL : (s.heap.push (tupOb vs)).objs.size = s.heap.objs.size + 1 := Heap.size_push ..
  have k1 : ∀ b o, (s.heap.push (tupOb vs)).get? b = some o → h₀.get? b = some o := fun b o e => hsb₀.extBut b o (Nat.ne_of_lt (Heap.lt_size e)) (Heap.get?_push_of_some _ e)
  refine ks_codeAny_funcAt (ks_wpAt_mono (h s.heap.objs.size _ h₀ ⟨hns₀, fun b o e => k1 b o (up b o (st b o e)), by rw [hL]; exact Nat.le_succ_of_le hsz⟩ (fun q hq => ?_) fun q hq => Heap.lt_size (hW q hq).1) (fun fl s' y => y) fun _ _ y => y.elim)
  rcases List.mem_cons.mp hq with rfl | hq
  · refine ⟨k1 _ _ (Heap.get?_push_size _ rfl), by dsimp only; rw [hL]; exact Nat.ne_of_lt (Nat.lt_succ_self _), ?_⟩
    cases z : g.get? s.heap.objs.size with
    | none => rfl
    | some o => exact absurd (Heap.lt_size (st _ _ z)) (Nat.lt_irrefl _)
  · exact ⟨k1 _ _ (up _ _ (hW q hq).1), by rw [hL]; exact Nat.ne_of_lt (Nat.lt_succ_of_lt (Heap.lt_size (hW q hq).1)), (hW q hq).2⟩
end
end Mine
namespace Mine
/-- a binder that makes one object, and looks into the written part else -/
theorem bind_made {α : Type} {K : Frag} {M : Model} {A : Around} {E : Value → Shared → Prop} {Q : α → Shared → Prop} {s : Shared} {o : Obj} (X : K.In s.heap) :
    ∀ {t : Sem α} {g : Addr → Sem α}, peekA K ⟨M.prog, M.w.params⟩ t = some (o, g) → wpAny M A (g s.heap.objs.size) Q E { s with heap := s.heap.push o } → wpAny M A t Q E s := by
  intro t
  induction t with
  | rule _ k ih => intro g e q Γ p hΓ; exact ih () e q Γ p hΓ
  | point _ k ih => intro g e q Γ p hΓ; exact ih () e q Γ p hΓ
  | ask k ih => intro g e q Γ p hΓ; exact ih _ e q Γ p hΓ
  | load a _ k ih =>
    intro g e q Γ p hΓ
    simp only [peekA] at e
    split at e
    · rename_i ob ho; exact ⟨ob, X _ _ ho, ih ob e q Γ p hΓ⟩
    · cases e
  | alloc ob k _ =>
    intro g e q
    have e : some (ob, k) = some (o, g) := e
    obtain ⟨e1, e2⟩ := Prod.mk.inj (Option.some.inj e)
    subst e1
    subst e2
    show wpAny M A (alloc ob >>= k) Q E s
    exact wpAny_bind (wpAny_alloc q)
  | _ => intro g e; cases e
end Mine
end EzExc4
section EzExc5
open PySem PySem.W PyProof.Rows PySem.Calls
namespace Mine
set_option maxRecDepth 100000
set_option maxHeartbeats 1000000
local macro_rules | `(tactic| k_in) => `(tactic| first | k_in_fast | exact Frag.In.keeps (by k_asm) (Fr.keep (by k_asm)))
local macro_rules | `(tactic| k_room) => `(tactic| ktr_room)
local macro_rules | `(tactic| k_units) => `(tactic| ktr_units)
local macro_rules | `(tactic| k_fill) => `(tactic| (k_with_none))
theorem excinit_does (w : World) (p : Program) (loose : List Str) (mean : ExcName → Option Value) (mg mb : Str → Option Value) (e t0 : Addr) (v : Value) :
    Does (Mine.frag.heap_1 w.params) PySem.Challenge.rw_ez0337_01.row.prog w p loose mean mg mb 4 38 [.ref e, v] [] [(e, excOb 102 t0), (t0, tupOb [v])] (fun _ => True)
      (fun g r h' => r = .none ∧ ∃ t1 dx od, h'.get? e = some (excOb 102 t1 (some dx)) ∧ h'.get? t1 = some (tupOb [v]) ∧ g.get? t1 = none ∧ h'.get? dx = some od ∧ g.get? dx = none) := by
  k_fill
  intro dp un gd outer base g A₀ s R B st X T hW hsz hPre hd hu kont
  refine' enterVS (binds := fun t => [("self", .ref e), ("status_code", .none), ("args", .ref t)]) (vs := [v]) (n := 3) st X T hW hsz ?ho ?hcd ?hroom ?hbind ?hloc ?hlen ?_ ?c2 ?c3 ?c4 ?c5
  case ho => k_is
  case hcd => k_is
  case hroom => omega
  case hloc => intro t y hy; simp only [List.mem_cons, List.not_mem_nil, or_false] at hy; rcases hy with rfl | rfl | rfl <;> rfl
  case hlen => intro _; rfl
  case c2 => rfl
  case c3 => rfl
  case c4 => rfl
  case c5 => decide
  case hbind =>
    intro A E Q hq
    exact bind_made (X.keeps st) (g := fun t => pure [("self", .ref e), ("status_code", .none), ("args", .ref t)]) rfl (wpAny_pure hq)
  intro t L' h₁ F N hlt
  refine ks_wpAt_execs_cons (ks_wpAt_Expr_any (star_MethodCall ?_))
  have I : InstAt h₁ e (excOb 102 t0) 102 none := ⟨N.get (by k_mem), rfl, rfl, trivial⟩
  refine ks_node F X N T (by k_is) (by rfl) (by rfl) I (by k_is) (by rfl) (by first | rfl | decide +kernel) (by k_is) (by k_is) (by k_is) (by k_is) (by decide +kernel) (by rfl) (by rfl) (by rfl) (by rfl) (by decide +kernel) (by rfl) ?_
  intro so h' F' N' l1
  have X' := X.keeps F'.keep
  have I' : InstAt h' e (excOb 102 t0) 102 none := ⟨N'.get (by k_mem), rfl, rfl, trivial⟩
  refine exc_super_attr (l₀ := _) (N'.get (.head _)) (looks_opaque X' (by k_is)) ((looks_clsIn X' (by k_is)).andThen .now) rfl X' (by rfl) (ks_ne X' I' (by k_is)) (I'.type.andThen (looks_mroIn X' (by k_is))) ?_
  have F2 := F'.push (mwOb e)
  have N2 := News.push F' N' (mwOb e)
  have hlm : @LT.lt Nat _ e h'.objs.size := Heap.lt_size (N'.get (a := e) (by k_mem))
  generalize h'.push (mwOb e) = H2 at F2 N2 ⊢
  generalize h'.objs.size = mw at N2 hlm ⊢
  clear F' N' F N X' I' I
  refine star_callWith (at' := t) (x := e) (vs := [v]) ?_
  refine' wpAny_Name (wpAny_loadName_local ?hk ?hl F2.ns ?hx ?_) ?hb
  case hk => rfl
  case hl => rfl
  case hx => rfl
  case hb => decide
  refine ⟨rfl, N2.get (by k_mem), N2.get (by k_mem), by rw [sizeLine_eq]; show (1 : Nat) ≤ _; omega, fun h3 hk3 => ?_⟩
  have F3 := F2.keptAll hk3
  have N3 := N2.grown hk3
  have X3 := X.keeps F3.keep
  refine mw_call (C := 102) (N3.get (.head _)) (N3.get (a := e) (by k_mem)) rfl rfl rfl ?_ (by rw [sizeLine_eq]; show (1 : Nat) ≤ _; omega) (X3 _ _ (by k_is))
  have F4 := F3.push (tupOb [v])
  have N4 : News g L' (h3.push (tupOb [v])) ([(h3.objs.size, tupOb [v])] ++ (e, excOb 102 t0) :: []) := News.perm (News.push F3 N3 (tupOb [v])) (all2 (by k_mem) (by k_mem))
  have hes : h3.objs.size ≠ e := Ne.symm (Nat.ne_of_lt (Heap.lt_size (N3.get (a := e) (by k_mem))))
  obtain ⟨F5, N5⟩ := news_upd (f := Obj.mapFields (·.setIfInBounds 0 (.ref h3.objs.size))) (o' := excOb 102 h3.objs.size) F4 N4 (fun p hp => by rw [List.mem_singleton.mp hp]; exact hes) (fun p hp => nomatch hp) rfl rfl
  dsimp only
  generalize (h3.push (tupOb [v])).update e (Obj.mapFields (·.setIfInBounds 0 (.ref h3.objs.size))) = H5 at F5 N5 ⊢
  generalize h3.objs.size = t1 at N5 hes ⊢
  clear F2 N2 F3 N3 F4 N4 X3
  have N6 : News g L' H5 ((e, excOb 102 t1) :: [(t1, tupOb [v])]) := News.perm N5 (all2 (by k_mem) (by k_mem))
  refine ks_wpAt_execs_cons (ks_wpAt_Assign_Attr (_root_.PySem.wpAt_of_wpAny ?_))
  refine' wpAny_Name (wpAny_loadName_local ?hk ?hl F5.ns ?hx ?_) ?hb
  case hk => rfl
  case hl => rfl
  case hx => rfl
  case hb => decide
  refine' wpAny_Name (wpAny_loadName_local ?hk ?hl F5.ns ?hx ?_) ?hb
  case hk => rfl
  case hl => rfl
  case hx => rfl
  case hb => decide
  refine exc_set F5 N6 (fun p hp => by rw [List.mem_singleton.mp hp]; exact hes) (X.keeps F5.keep) (by k_is) (by k_is) rfl rfl (by rfl) ?_
  intro dx od h7 tk7 F7 N7
  dsimp only
  refine _root_.PySem.wpAt_of_wpAny (wpAny_pure ?_)
  exact kont _ _ _ F7.keep ⟨rfl, t1, dx, od, N7.get (by k_mem), N7.get (by k_mem), N7.fresh (a := t1) (o := tupOb [v]) (by k_mem), N7.get (by k_mem), N7.fresh (a := dx) (o := od) (by k_mem)⟩
theorem excinitK_does (w : World) (p : Program) (loose : List Str) (mean : ExcName → Option Value) (mg mb : Str → Option Value) (e t0 : Addr) (v sc : Value) :
    Does (Mine.frag.heap_1 w.params) PySem.Challenge.rw_ez0337_01.row.prog w p loose mean mg mb 4 38 [.ref e, v] [("status_code", sc)] [(e, excOb 102 t0), (t0, tupOb [v])] (fun _ => True)
      (fun g r h' => r = .none ∧ ∃ t1 dx od, h'.get? e = some (excOb 102 t1 (some dx)) ∧ h'.get? t1 = some (tupOb [v]) ∧ g.get? t1 = none ∧ h'.get? dx = some od ∧ g.get? dx = none) := by
  k_fill
  intro dp un gd outer base g A₀ s R B st X T hW hsz hPre hd hu kont
  refine' enterVS (binds := fun t => [("self", .ref e), ("status_code", sc), ("args", .ref t)]) (vs := [v]) (n := 3) st X T hW hsz ?ho ?hcd ?hroom ?hbind ?hloc ?hlen ?_ ?c2 ?c3 ?c4 ?c5
  case ho => k_is
  case hcd => k_is
  case hroom => omega
  case hloc => intro t y hy; simp only [List.mem_cons, List.not_mem_nil, or_false] at hy; rcases hy with rfl | rfl | rfl <;> rfl
  case hlen => intro _; rfl
  case c2 => rfl
  case c3 => rfl
  case c4 => rfl
  case c5 => decide
  case hbind =>
    intro A E Q hq
    exact bind_made (X.keeps st) (g := fun t => pure [("self", .ref e), ("status_code", sc), ("args", .ref t)]) rfl (wpAny_pure hq)
  intro t L' h₁ F N hlt
  refine ks_wpAt_execs_cons (ks_wpAt_Expr_any (star_MethodCall ?_))
  have I : InstAt h₁ e (excOb 102 t0) 102 none := ⟨N.get (by k_mem), rfl, rfl, trivial⟩
  refine ks_node F X N T (by k_is) (by rfl) (by rfl) I (by k_is) (by rfl) (by first | rfl | decide +kernel) (by k_is) (by k_is) (by k_is) (by k_is) (by decide +kernel) (by rfl) (by rfl) (by rfl) (by rfl) (by decide +kernel) (by rfl) ?_
  intro so h' F' N' l1
  have X' := X.keeps F'.keep
  have I' : InstAt h' e (excOb 102 t0) 102 none := ⟨N'.get (by k_mem), rfl, rfl, trivial⟩
  refine exc_super_attr (l₀ := _) (N'.get (.head _)) (looks_opaque X' (by k_is)) ((looks_clsIn X' (by k_is)).andThen .now) rfl X' (by rfl) (ks_ne X' I' (by k_is)) (I'.type.andThen (looks_mroIn X' (by k_is))) ?_
  have F2 := F'.push (mwOb e)
  have N2 := News.push F' N' (mwOb e)
  have hlm : @LT.lt Nat _ e h'.objs.size := Heap.lt_size (N'.get (a := e) (by k_mem))
  generalize h'.push (mwOb e) = H2 at F2 N2 ⊢
  generalize h'.objs.size = mw at N2 hlm ⊢
  clear F' N' F N X' I' I
  refine star_callWith (at' := t) (x := e) (vs := [v]) ?_
  refine' wpAny_Name (wpAny_loadName_local ?hk ?hl F2.ns ?hx ?_) ?hb
  case hk => rfl
  case hl => rfl
  case hx => rfl
  case hb => decide
  refine ⟨rfl, N2.get (by k_mem), N2.get (by k_mem), by rw [sizeLine_eq]; show (1 : Nat) ≤ _; omega, fun h3 hk3 => ?_⟩
  have F3 := F2.keptAll hk3
  have N3 := N2.grown hk3
  have X3 := X.keeps F3.keep
  refine mw_call (C := 102) (N3.get (.head _)) (N3.get (a := e) (by k_mem)) rfl rfl rfl ?_ (by rw [sizeLine_eq]; show (1 : Nat) ≤ _; omega) (X3 _ _ (by k_is))
  have F4 := F3.push (tupOb [v])
  have N4 : News g L' (h3.push (tupOb [v])) ([(h3.objs.size, tupOb [v])] ++ (e, excOb 102 t0) :: []) := News.perm (News.push F3 N3 (tupOb [v])) (all2 (by k_mem) (by k_mem))
  have hes : h3.objs.size ≠ e := Ne.symm (Nat.ne_of_lt (Heap.lt_size (N3.get (a := e) (by k_mem))))
  obtain ⟨F5, N5⟩ := news_upd (f := Obj.mapFields (·.setIfInBounds 0 (.ref h3.objs.size))) (o' := excOb 102 h3.objs.size) F4 N4 (fun p hp => by rw [List.mem_singleton.mp hp]; exact hes) (fun p hp => nomatch hp) rfl rfl
  dsimp only
  generalize (h3.push (tupOb [v])).update e (Obj.mapFields (·.setIfInBounds 0 (.ref h3.objs.size))) = H5 at F5 N5 ⊢
  generalize h3.objs.size = t1 at N5 hes ⊢
  clear F2 N2 F3 N3 F4 N4 X3
  have N6 : News g L' H5 ((e, excOb 102 t1) :: [(t1, tupOb [v])]) := News.perm N5 (all2 (by k_mem) (by k_mem))
  refine ks_wpAt_execs_cons (ks_wpAt_Assign_Attr (_root_.PySem.wpAt_of_wpAny ?_))
  refine' wpAny_Name (wpAny_loadName_local ?hk ?hl F5.ns ?hx ?_) ?hb
  case hk => rfl
  case hl => rfl
  case hx => rfl
  case hb => decide
  refine' wpAny_Name (wpAny_loadName_local ?hk ?hl F5.ns ?hx ?_) ?hb
  case hk => rfl
  case hl => rfl
  case hx => rfl
  case hb => decide
  refine exc_set F5 N6 (fun p hp => by rw [List.mem_singleton.mp hp]; exact hes) (X.keeps F5.keep) (by k_is) (by k_is) rfl rfl (by rfl) ?_
  intro dx od h7 tk7 F7 N7
  dsimp only
  refine _root_.PySem.wpAt_of_wpAny (wpAny_pure ?_)
  exact kont _ _ _ F7.keep ⟨rfl, t1, dx, od, N7.get (by k_mem), N7.get (by k_mem), N7.fresh (a := t1) (o := tupOb [v]) (by k_mem), N7.get (by k_mem), N7.fresh (a := dx) (o := od) (by k_mem)⟩
end Mine
end EzExc5
section EzExc6
open PySem PySem.W PyProof.Rows PySem.Calls
namespace Mine
set_option maxRecDepth 100000
set_option maxHeartbeats 1000000
section
variable {w : World} {p : Program} {loose : List PySem.Str} {mean : ExcName → Option Value} {mg mb : PySem.Str → Option Value}
variable {A₀ : Around} {base g : Heap} {outer : List Env} {s : Shared} {L a : Addr} {m : PySem.Str → Option Value} {cn : PySem.Str} {cs : Scope} {ccd : Value} {cl : List (PySem.Str × Addr)} {dp un : Nat} {gd : Option (List Code)} {news : List (Addr × Obj)}
local macro_rules | `(tactic| k_fill) => `(tactic| (k_with_none))
theorem exc_make0 {Q : Value → Shared → Prop} {v : Value} (B : Below A₀ base outer g) (F : Fr g L s.heap m) (X : (Mine.frag.heap_1 w.params).In g) (T : Top p loose mean mg mb g)
    (N : News g L s.heap news) (hk : cs.kind = .function) (hd : dp + 6 < recursionLimit) (hu : un + 8 * 6 < cLine)
    (h : ∀ e t1 dx od h' tk, Fr g L h' m → News g L h' ((e, excOb 102 t1 (some dx)) :: (t1, tupOb [v]) :: (dx, od) :: news) → Q (.ref e) { s with heap := h', toks := tk }) :
    wpC (model PySem.Challenge.rw_ez0337_01.row.prog w) (Ar dp un gd (envX cn cs L a ccd cl :: outer)) (call (.ref 102) [v] []) Q s := by
  revert X
  k_fill
  intro X
  have KX := X.keeps F.keep
  have hC := KX 102 _ (by k_is)
  obtain ⟨hh, gn, d, tk, os⟩ := s
  dsimp only at KX hC F N
  refine C_call (C_make (init := .ref 38) hC rfl (looks_specialIn KX (by k_is)) (looks_instIn KX (by k_is)) ?_)
  rw [ar_type_call]
  refine wpAny_madeBy_exc hC ?_
  dsimp only
  refine wpAny_pure ?_
  refine wpAny_call (codeAny_call_builtin_code (Code.quiet_builtin _ (by decide +kernel)) (exc_check_new0 hC ?_))
  refine exc_new hC ?_ (by rw [sizeLine_eq]; show (1 : Nat) ≤ _; omega)
  dsimp only
  have F1 := F.push (tupOb [v])
  have N1 := News.push F N (tupOb [v])
  have F2 := F1.push (excOb 102 hh.objs.size)
  have N2 := News.push F1 N1 (excOb 102 hh.objs.size)
  have hs : (hh.push (tupOb [v])).objs.size = hh.objs.size + 1 := Heap.size_push ..
  rw [hs] at N2
  have hlt : ∀ q ∈ news, @LT.lt Nat _ q.1 hh.objs.size := fun q hq => Heap.lt_size (N q hq).1
  generalize (hh.push (tupOb [v])).push (excOb 102 hh.objs.size) = H2 at F2 N2 ⊢
  obtain ⟨e, he⟩ : ∃ e, e = hh.objs.size + 1 := ⟨_, rfl⟩
  rw [← he] at N2 ⊢
  obtain ⟨t0, ht0⟩ : ∃ t0, t0 = hh.objs.size := ⟨_, rfl⟩
  rw [← ht0] at N2 hlt he
  clear F1 N1
  have KX2 := X.keeps F2.keep
  have he1 := N2.get (.head _)
  have I : InstAt H2 e (excOb 102 t0) 102 none := ⟨he1, rfl, rfl, trivial⟩
  refine ⟨I.type.andThen (looks_mroIn KX2 (by k_is)), I.type.andThen (looks_findIn KX2 (by k_is)), bind_fn KX2 _ (by k_is), ?_⟩
  refine C_of (use (excinit_does w p loose mean mg mb e t0 v) B F2 X N2 T hk (keepL := news) (all2 (by k_mem) (by k_mem)) (fun q hq => ⟨List.mem_cons_of_mem _ (List.mem_cons_of_mem _ hq), ?_⟩) (fun _ _ _ => trivial) ?hd ?hu ?_)
  case hd => show dp + 1 + 4 < recursionLimit; omega
  case hu => show un + 1 + 8 * 4 < cLine; omega
  · have := hlt q hq
    intro hm
    simp only [List.map_cons, List.map_nil, List.mem_cons, List.not_mem_nil, or_false] at hm
    have h1 : @Ne Nat q.1 e := by omega
    have h2 : @Ne Nat q.1 t0 := by omega
    exact hm.elim h1 h2
  intro v₄ h₄ t₄ g₄ F₄ N₄ st₄ kp₄ st₄' post₄ bld
  obtain ⟨rfl, t1, dx, od, e1, e2, e3, e4, e5⟩ := post₄
  refine ⟨rfl, _, rfl, h e t1 dx od h₄ t₄ F₄ ?_⟩
  have N5 := bld [(e, excOb 102 t1 (some dx)), (t1, tupOb [v]), (dx, od)] (all3 ⟨e1, .inl (by k_mem)⟩ ⟨e2, .inr e3⟩ ⟨e4, .inr e5⟩)
  exact News.append N5 N₄
theorem exc_makeK {Q : Value → Shared → Prop} {v sc : Value} (B : Below A₀ base outer g) (F : Fr g L s.heap m) (X : (Mine.frag.heap_1 w.params).In g) (T : Top p loose mean mg mb g)
    (N : News g L s.heap news) (hk : cs.kind = .function) (hd : dp + 6 < recursionLimit) (hu : un + 8 * 6 < cLine)
    (h : ∀ e t1 dx od h' tk, Fr g L h' m → News g L h' ((e, excOb 102 t1 (some dx)) :: (t1, tupOb [v]) :: (dx, od) :: news) → Q (.ref e) { s with heap := h', toks := tk }) :
    wpC (model PySem.Challenge.rw_ez0337_01.row.prog w) (Ar dp un gd (envX cn cs L a ccd cl :: outer)) (call (.ref 102) [v] [("status_code", sc)]) Q s := by
  revert X
  k_fill
  intro X
  have KX := X.keeps F.keep
  have hC := KX 102 _ (by k_is)
  obtain ⟨hh, gn, d, tk, os⟩ := s
  dsimp only at KX hC F N
  refine C_call (C_make (init := .ref 38) hC rfl (looks_specialIn KX (by k_is)) (looks_instIn KX (by k_is)) ?_)
  rw [ar_type_call]
  refine wpAny_madeBy_exc hC ?_
  dsimp only
  refine wpAny_pure ?_
  refine wpAny_call (codeAny_call_builtin_code (Code.quiet_builtin _ (by decide +kernel)) (exc_check_new hC ?_))
  refine exc_new hC ?_ (by rw [sizeLine_eq]; show (1 : Nat) ≤ _; omega)
  dsimp only
  have F1 := F.push (tupOb [v])
  have N1 := News.push F N (tupOb [v])
  have F2 := F1.push (excOb 102 hh.objs.size)
  have N2 := News.push F1 N1 (excOb 102 hh.objs.size)
  have hs : (hh.push (tupOb [v])).objs.size = hh.objs.size + 1 := Heap.size_push ..
  rw [hs] at N2
  have hlt : ∀ q ∈ news, @LT.lt Nat _ q.1 hh.objs.size := fun q hq => Heap.lt_size (N q hq).1
  generalize (hh.push (tupOb [v])).push (excOb 102 hh.objs.size) = H2 at F2 N2 ⊢
  obtain ⟨e, he⟩ : ∃ e, e = hh.objs.size + 1 := ⟨_, rfl⟩
  rw [← he] at N2 ⊢
  obtain ⟨t0, ht0⟩ : ∃ t0, t0 = hh.objs.size := ⟨_, rfl⟩
  rw [← ht0] at N2 hlt he
  clear F1 N1
  have KX2 := X.keeps F2.keep
  have he1 := N2.get (.head _)
  have I : InstAt H2 e (excOb 102 t0) 102 none := ⟨he1, rfl, rfl, trivial⟩
  refine ⟨I.type.andThen (looks_mroIn KX2 (by k_is)), I.type.andThen (looks_findIn KX2 (by k_is)), bind_fn KX2 _ (by k_is), ?_⟩
  refine C_of (use (excinitK_does w p loose mean mg mb e t0 v sc) B F2 X N2 T hk (keepL := news) (all2 (by k_mem) (by k_mem)) (fun q hq => ⟨List.mem_cons_of_mem _ (List.mem_cons_of_mem _ hq), ?_⟩) (fun _ _ _ => trivial) ?hd ?hu ?_)
  case hd => show dp + 1 + 4 < recursionLimit; omega
  case hu => show un + 1 + 8 * 4 < cLine; omega
  · have := hlt q hq
    intro hm
    simp only [List.map_cons, List.map_nil, List.mem_cons, List.not_mem_nil, or_false] at hm
    have h1 : @Ne Nat q.1 e := by omega
    have h2 : @Ne Nat q.1 t0 := by omega
    exact hm.elim h1 h2
  intro v₄ h₄ t₄ g₄ F₄ N₄ st₄ kp₄ st₄' post₄ bld
  obtain ⟨rfl, t1, dx, od, e1, e2, e3, e4, e5⟩ := post₄
  refine ⟨rfl, _, rfl, h e t1 dx od h₄ t₄ F₄ ?_⟩
  have N5 := bld [(e, excOb 102 t1 (some dx)), (t1, tupOb [v]), (dx, od)] (all3 ⟨e1, .inl (by k_mem)⟩ ⟨e2, .inr e3⟩ ⟨e4, .inr e5⟩)
  exact News.append N5 N₄
end
end Mine
end EzExc6
section EzTg
open PySem PySem.W PyProof.Rows PySem.Calls
set_option maxRecDepth 100000
namespace Mine
section
variable {prog : Program} {w : World} {A : Around} {E : Value → Shared → Prop} {s : Shared} {K : Frag} {h₀ : Heap} {L a : Addr} {m : PySem.Str → Option Value} {es : Array DictEntry} {n : Nat} {x : PySem.Str} {t : Tok} {r : Option Value}
theorem topGetMethod_K {pl : Sem Bool} {Q : Value × List Value → Shared → Prop} (F : Fr h₀ L s.heap m) (X₀ : K.In h₀) (hl : K.lookup a = some ⟨.type "dict", none, .dict es n, #[]⟩) (hk : KeysLit w.params es.toList) (h : Q (.builtin "dict.get", [.ref a]) s) :
    wpAny (model prog w) A (getMethod (.ref a) "get" pl) Q E s :=
  have hm := mapOf_K (prog := prog) (X₀.keeps F.keep) hl hk
  getMethod_builtin hm.typeIs PySem.F.plainAttrs_dict PySem.F.slot_dict_get PySem.F.type_dict_get hm.noDict h
theorem topGet2_K {dflt : Value} {Q : Value → Shared → Prop} (F : Fr h₀ L s.heap m) (X₀ : K.In h₀) (hl : K.lookup a = some ⟨.type "dict", none, .dict es n, #[]⟩) (hk : KeysLit w.params es.toList) (e : nsIn K a x = some r) (lo : (a == sysModules) = false)
    (h : Q (r.getD dflt) { s with toks := s.toks + 1 }) : wpAny (model prog w) A (call (.builtin "dict.get") [.ref a, .str x t, dflt]) Q E s :=
  have hm := mapOf_K (prog := prog) (X₀.keeps F.keep) hl hk
  call_meetsIn PySem.F.slot_dict_get hm.typeIs PySem.F.entry_dict_get (PySem.F.args_dict_get_3 _ _ _) (meets_dict_get_default (strKind prog w) a (strKind_is prog w x t) lo dflt) ⟨_, hm, by rw [find_K hl e]; exact h⟩
end
end Mine
end EzTg
section EzPe
open PySem PySem.W PyProof.Rows PySem.Calls
namespace Mine
set_option maxRecDepth 100000
set_option maxHeartbeats 1000000
local macro_rules | `(tactic| k_in) => `(tactic| first | k_in_fast | exact Frag.In.keeps (by k_asm) (Fr.keep (by k_asm)))
local macro_rules | `(tactic| k_room) => `(tactic| ktr_room)
local macro_rules | `(tactic| k_units) => `(tactic| ktr_units)
local macro_rules | `(tactic| k_fill) => `(tactic| (k_with_none; (k_with "eval Name" => (k_here; k_dflt (first | (refine' nameX_K ?F ?X ?T ?e ?_ ?a ?b ?c; (case F => k_asm); (case X => k_asm); (case T => k_asm); (case e => k_is); (case a => kernel_rfl); (case b => kernel_rfl); (case c => kernel_rfl); k_whole) | (refine' nameX_C ?N ?h ?m ?d ?_ ?a ?b ?c; (case h => rfl); (case N => k_asm); (case m => k_mem); (case d => k_asm); (case a => kernel_rfl); (case b => kernel_rfl); (case c => kernel_rfl); k_whole) | (refine' nameX_L ?F ?v ?_ ?a ?b ?c; (case F => k_asm); (case v => rfl); (case a => kernel_rfl); (case b => kernel_rfl); (case c => kernel_rfl); k_whole) | (refine' nameX_B ?F ?X ?T ?e ?v ?n ?_ ?a ?b ?c; (case F => k_asm); (case X => k_asm); (case T => k_asm); (case e => k_is); (case v => boot_fast); (case n => decide); (case a => kernel_rfl); (case b => kernel_rfl); (case c => kernel_rfl); k_whole)))); (k_with "ite" => (k_closed; first | (refine ite_pos ?h ?_; (case h => k_dflt (decide +kernel))) | (refine ite_neg ?h ?_; (case h => k_dflt (decide +kernel))))); (k_with "getMethod ref" => (k_here; (with_reducible show wpAny _ _ (getMethod (Value.ref _) (PySem.Str.ofString "get") _) _ _ _); k_dflt (refine' topGetMethod_K ?F ?X ?l ?k ?_; (case F => k_asm); (case X => k_asm); (case l => k_is); (case k => k_keys); k_whole))); (k_with "call builtin:dict.get" => (k_here; k_dflt (refine' topGet2_K ?F ?X ?l ?k ?e ?o ?_; (case F => k_asm); (case X => k_asm); (case l => k_is); (case k => k_keys); (case e => k_is); (case o => decide); k_whole)))))
theorem pe0_does (w : World) (p : Program) (loose : List Str) (mean : ExcName → Option Value) (mg mb : Str → Option Value) (tx : Tok) :
    DoesC (Mine.frag.heap_1 w.params) PySem.Challenge.rw_ez0337_01.row.prog w p loose mean mg mb 12 987 [.ref 1077, .str "ERR no" tx] [] [] (fun _ => True) (fun g v h' => ∃ e t1 dx od ta, v = .ref e ∧ h'.get? dx = some od ∧ g.get? dx = none ∧ h'.get? e = some (excOb 102 t1 (some dx)) ∧ h'.get? t1 = some (tupOb [.str "no" ta]) ∧ g.get? e = none ∧ g.get? t1 = none) := by
  k_fill
  intro dp un gd outer base g A₀ s R B st X T hW hsz hPre hd hu kont
  refine' enterC st X T hW hsz ?ho ?hcd ?hroom ?hbind ?hloc ?_ ?c2 ?c3 ?c4 ?c5
  case ho => k_is
  case hcd => k_is
  case hroom => omega
  case hbind => first | exact BindsTo.of_eq rfl | exact binds_K (X.keeps fun b o e => st b o e) rfl (by k_is) rfl rfl rfl
  case hloc => exact locs rfl
  case c2 => rfl
  case c3 => rfl
  case c4 => rfl
  case c5 => decide
  intro L' h₁ F N hlt
  (try k_lt hlt)
  dsimp only
  refine C_consK ?_
  k_steps
  all_goals (try dsimp only)
  refine C_cons (C_If ?_)
  k_steps
  all_goals (try dsimp only)
  refine C_consK ?_
  k_steps
  all_goals (try dsimp only)
  refine C_consK ?_
  k_steps
  all_goals (try dsimp only)
  refine C_consK ?_
  k_steps
  all_goals (try dsimp only)
  refine C_cons (C_Return (C_Call_Name ?_))
  k_steps
  refine C_callKW (K := Mine.frag.heap_1 w.params) ?kK ?kA ?_
  case kK => k_is
  case kA => rfl
  k_steps
  rename Fr g L' _ _ => kF
  rename News g L' _ _ => kN
  (try dsimp only [List.cons_append, List.nil_append])
  refine' exc_makeK B kF X T kN rfl ?hd ?hu ?_
  case hd => show dp + 1 + 6 < recursionLimit; omega
  case hu => show un + 3 + 8 * 6 < cLine; omega
  intro e t1 dx od h₄ t₄ F₄ N₄
  exact kont _ _ _ F₄.keep ⟨e, t1, dx, od, _, rfl, N₄.get (by k_mem), N₄.fresh (a := dx) (by k_mem), N₄.get (by k_mem), N₄.get (a := t1) (by k_mem), N₄.fresh (a := e) (by k_mem), N₄.fresh (a := t1) (by k_mem)⟩

theorem pe1_does (w : World) (p : Program) (loose : List Str) (mean : ExcName → Option Value) (mg mb : Str → Option Value) (tx : Tok) :
    DoesC (Mine.frag.heap_1 w.params) PySem.Challenge.rw_ez0337_01.row.prog w p loose mean mg mb 12 987 [.ref 1077, .str "oops" tx] [] [] (fun _ => True) (fun g v h' => ∃ e t1 dx od ta, v = .ref e ∧ h'.get? dx = some od ∧ g.get? dx = none ∧ h'.get? e = some (excOb 102 t1 (some dx)) ∧ h'.get? t1 = some (tupOb [.str "oops" ta]) ∧ g.get? e = none ∧ g.get? t1 = none) := by
  k_fill
  intro dp un gd outer base g A₀ s R B st X T hW hsz hPre hd hu kont
  refine' enterC st X T hW hsz ?ho ?hcd ?hroom ?hbind ?hloc ?_ ?c2 ?c3 ?c4 ?c5
  case ho => k_is
  case hcd => k_is
  case hroom => omega
  case hbind => first | exact BindsTo.of_eq rfl | exact binds_K (X.keeps fun b o e => st b o e) rfl (by k_is) rfl rfl rfl
  case hloc => exact locs rfl
  case c2 => rfl
  case c3 => rfl
  case c4 => rfl
  case c5 => decide
  intro L' h₁ F N hlt
  (try k_lt hlt)
  dsimp only
  refine C_consK ?_
  k_steps
  all_goals (try dsimp only)
  refine C_cons (C_If ?_)
  k_steps
  all_goals (try dsimp only)
  refine C_nil ?_
  (try dsimp only)
  refine C_cons (C_Return (C_Call_Name ?_))
  k_steps
  refine C_callK (K := Mine.frag.heap_1 w.params) ?kK ?_
  case kK => k_is
  k_steps
  rename Fr g L' _ _ => kF
  rename News g L' _ _ => kN
  (try dsimp only [List.cons_append, List.nil_append])
  refine' exc_make0 B kF X T kN rfl ?hd ?hu ?_
  case hd => show dp + 1 + 6 < recursionLimit; omega
  case hu => show un + 3 + 8 * 6 < cLine; omega
  intro e t1 dx od h₄ t₄ F₄ N₄
  exact kont _ _ _ F₄.keep ⟨e, t1, dx, od, _, rfl, N₄.get (by k_mem), N₄.fresh (a := dx) (by k_mem), N₄.get (by k_mem), N₄.get (a := t1) (by k_mem), N₄.fresh (a := e) (by k_mem), N₄.fresh (a := t1) (by k_mem)⟩

theorem pe2_does (w : World) (p : Program) (loose : List Str) (mean : ExcName → Option Value) (mg mb : Str → Option Value) (tx : Tok) :
    DoesC (Mine.frag.heap_1 w.params) PySem.Challenge.rw_ez0337_01.row.prog w p loose mean mg mb 12 987 [.ref 1077, .str "WRONGTYPE a b" tx] [] [] (fun _ => True) (fun g v h' => ∃ e t1 dx od ta, v = .ref e ∧ h'.get? dx = some od ∧ g.get? dx = none ∧ h'.get? e = some (excOb 102 t1 (some dx)) ∧ h'.get? t1 = some (tupOb [.str "WRONGTYPE a b" ta]) ∧ g.get? e = none ∧ g.get? t1 = none) := by
  k_fill
  intro dp un gd outer base g A₀ s R B st X T hW hsz hPre hd hu kont
  refine' enterC st X T hW hsz ?ho ?hcd ?hroom ?hbind ?hloc ?_ ?c2 ?c3 ?c4 ?c5
  case ho => k_is
  case hcd => k_is
  case hroom => omega
  case hbind => first | exact BindsTo.of_eq rfl | exact binds_K (X.keeps fun b o e => st b o e) rfl (by k_is) rfl rfl rfl
  case hloc => exact locs rfl
  case c2 => rfl
  case c3 => rfl
  case c4 => rfl
  case c5 => decide
  intro L' h₁ F N hlt
  (try k_lt hlt)
  dsimp only
  refine C_consK ?_
  k_steps
  all_goals (try dsimp only)
  refine C_cons (C_If ?_)
  k_steps
  all_goals (try dsimp only)
  refine C_nil ?_
  (try dsimp only)
  refine C_cons (C_Return (C_Call_Name ?_))
  k_steps
  refine C_callK (K := Mine.frag.heap_1 w.params) ?kK ?_
  case kK => k_is
  k_steps
  rename Fr g L' _ _ => kF
  rename News g L' _ _ => kN
  (try dsimp only [List.cons_append, List.nil_append])
  refine' exc_make0 B kF X T kN rfl ?hd ?hu ?_
  case hd => show dp + 1 + 6 < recursionLimit; omega
  case hu => show un + 3 + 8 * 6 < cLine; omega
  intro e t1 dx od h₄ t₄ F₄ N₄
  exact kont _ _ _ F₄.keep ⟨e, t1, dx, od, _, rfl, N₄.get (by k_mem), N₄.fresh (a := dx) (by k_mem), N₄.get (by k_mem), N₄.get (a := t1) (by k_mem), N₄.fresh (a := e) (by k_mem), N₄.fresh (a := t1) (by k_mem)⟩

theorem pe3_does (w : World) (p : Program) (loose : List Str) (mean : ExcName → Option Value) (mg mb : Str → Option Value) (tx : Tok) :
    DoesC (Mine.frag.heap_1 w.params) PySem.Challenge.rw_ez0337_01.row.prog w p loose mean mg mb 12 987 [.ref 1077, .str "ERR" tx] [] [] (fun _ => True) (fun g v h' => ∃ e t1 dx od ta, v = .ref e ∧ h'.get? dx = some od ∧ g.get? dx = none ∧ h'.get? e = some (excOb 102 t1 (some dx)) ∧ h'.get? t1 = some (tupOb [.str "" ta]) ∧ g.get? e = none ∧ g.get? t1 = none) := by
  k_fill
  intro dp un gd outer base g A₀ s R B st X T hW hsz hPre hd hu kont
  refine' enterC st X T hW hsz ?ho ?hcd ?hroom ?hbind ?hloc ?_ ?c2 ?c3 ?c4 ?c5
  case ho => k_is
  case hcd => k_is
  case hroom => omega
  case hbind => first | exact BindsTo.of_eq rfl | exact binds_K (X.keeps fun b o e => st b o e) rfl (by k_is) rfl rfl rfl
  case hloc => exact locs rfl
  case c2 => rfl
  case c3 => rfl
  case c4 => rfl
  case c5 => decide
  intro L' h₁ F N hlt
  (try k_lt hlt)
  dsimp only
  refine C_consK ?_
  k_steps
  all_goals (try dsimp only)
  refine C_cons (C_If ?_)
  k_steps
  all_goals (try dsimp only)
  refine C_consK ?_
  k_steps
  all_goals (try dsimp only)
  refine C_consK ?_
  k_steps
  all_goals (try dsimp only)
  refine C_consK ?_
  k_steps
  all_goals (try dsimp only)
  refine C_cons (C_Return (C_Call_Name ?_))
  k_steps
  refine C_callKW (K := Mine.frag.heap_1 w.params) ?kK ?kA ?_
  case kK => k_is
  case kA => rfl
  k_steps
  rename Fr g L' _ _ => kF
  rename News g L' _ _ => kN
  (try dsimp only [List.cons_append, List.nil_append])
  refine' exc_makeK B kF X T kN rfl ?hd ?hu ?_
  case hd => show dp + 1 + 6 < recursionLimit; omega
  case hu => show un + 3 + 8 * 6 < cLine; omega
  intro e t1 dx od h₄ t₄ F₄ N₄
  exact kont _ _ _ F₄.keep ⟨e, t1, dx, od, _, rfl, N₄.get (by k_mem), N₄.fresh (a := dx) (by k_mem), N₄.get (by k_mem), N₄.get (a := t1) (by k_mem), N₄.fresh (a := e) (by k_mem), N₄.fresh (a := t1) (by k_mem)⟩

end Mine
end EzPe
section EzMeth
open PySem PySem.W PyProof.Rows PySem.Calls
set_option maxRecDepth 100000
namespace Mine
section
variable {prog : Program} {w : World} {A : Around} {s : Shared} {env : Env} {R : Result → Shared → Prop}
theorem codeC_meth {q fa : Addr} {self : Value} {vs : List Value} {kw : List (Str × Value)} (hq : s.heap.get? q = some (methodObj (.ref fa) self)) (h : codeC (model prog w) A (.call (.ref fa) ⟨self :: vs, kw⟩) R s) :
    codeC (model prog w) A (.call (.ref q) ⟨vs, kw⟩) R s := by
  refine codeC_tree rfl (C_of ?_)
  show wpAny _ A.in1 (callAny (.ref q) ⟨vs, kw⟩) _ _ _
  unfold callAny
  refine wpAny_bind (wpAny_load hq ?_)
  dsimp only
  simp only [show (Value.type "method" == Value.type "method" || Value.type "method" == Value.type "builtin_function_or_method" || Value.type "method" == Value.type "method-wrapper") = true by decide, if_true]
  exact wpAny_pure (And.intro rfl h)
theorem C_callM {K : Frag} {pos : Pos} {q fa : Addr} {self : Value} {Q : Value → Shared → Prop} {e : Expr} {rest : List Expr} {oc : Value} {od : Option Addr} {fd : FuncData} {osl : Array (Option Value)} (ho : K.lookup fa = some ⟨oc, od, .func fd, osl⟩)
    (h : wpAny (model prog w) A (spliced (backTo pos (starEach (e :: rest) env))) (fun vs s₁ => (s₁.heap.get? q = some (methodObj (.ref fa) self) ∧ K.In s₁.heap) ∧ wpC (model prog w) A (call (.ref q) ([] ++ vs)) Q s₁) noE s)
    (he : starEach (e :: rest) env = (false, eval e env) :: starEach rest env := by rfl) (hplain : (backTo pos (starEach rest env)).any (·.1) = false := by rfl) :
    wpC (model prog w) A (callWith pos (.ref q) [] (backTo pos (starEach (e :: rest) env)) []) Q s := by
  rw [he] at h ⊢
  refine C_callWith_of (P := fun h => h.get? q = some (methodObj (.ref fa) self) ∧ K.In h) (by show ((false || (backTo pos (starEach rest env)).any (·.1)) || false) = false; rw [hplain]; rfl) (fun h hP => ⟨.boundFrame, .inr (.inr rfl), ?_⟩) (evalArgs_plain h)
  exact (Looks.ld hP.1).andThen ((Looks.ld (hP.2 _ _ ho)).andThen .now)
end
section
variable {K : Frag} {prog : Program} {w : World} {p : Program} {loose : List Str} {mean : ExcName → Option Value} {mg mb : Str → Option Value} {n : Nat} {f : Addr} {args : List Value} {kw : List (Str × Value)} {W : List (Addr × Obj)} {Pre : Heap → Prop} {Post : Heap → Value → Heap → Prop}
  {dp un : Nat} {gd : Option (List Code)} {outer : List Env} {base g : Heap} {A₀ : Around} {s : Shared} {R : Result → Shared → Prop}
theorem useM {q : Addr} {self : Value} (C : DoesC K prog w p loose mean mg mb n f (self :: args) kw W Pre Post) {cn : Str} {cs : Scope} {L a : Addr} {ccd : Value} {cl : List (Str × Addr)} {m : Str → Option Value} {h₀ : Heap} {news keepL : List (Addr × Obj)} {Q : Value → Shared → Prop}
    (hq : s.heap.get? q = some (methodObj (.ref f) self)) (B : Below A₀ base outer h₀) (F : Fr h₀ L s.heap m) (X : K.In h₀) (N : News h₀ L s.heap news) (T : Top p loose mean mg mb h₀) (hk : cs.kind = .function)
    (hW : ∀ q ∈ W, q ∈ news) (hKeep : ∀ q ∈ keepL, q ∈ news ∧ q.1 ∉ W.map (·.1)) (hPre : ∀ g : Heap, h₀.StaysIn g → (∀ q ∈ keepL, g.get? q.1 = some q.2) → Pre g)
    (hd : dp + n < recursionLimit) (hu : un + 8 * n < cLine) (k : Back K h₀ L m W keepL Post Q s) :
    wpC (model prog w) (Ar dp un gd (envX cn cs L a ccd cl :: outer)) (call (.ref q) args kw) Q s := by
  obtain ⟨g, BG, st, XG, TG, hWG, hsz, hp, kk⟩ := use_parts (dp := dp) (un := un) (gd := gd) (cn := cn) (a := a) (ccd := ccd) (cl := cl) B F X N T hk hW hKeep hPre k
  exact C_call (codeC_meth hq (C dp un gd _ base g _ s _ BG st XG TG hWG hsz hp hd hu fun v h' t' q1 q2 => ⟨v, rfl, kk v h' t' q1 q2⟩))
end
end Mine
end EzMeth
section EzExc7
open PySem PySem.W PyProof.Rows PySem.Calls Builtin
set_option maxRecDepth 100000
set_option maxHeartbeats 1000000
namespace Mine
theorem bga_kind : builtinKind "BaseException.__getattribute__" = some .slot := by decide +kernel
theorem bga_split : splitId "BaseException.__getattribute__" = some ("BaseException", "__getattribute__") := by decide +kernel
section
variable {prog : Program} {w : World} {A : Around} {E : Value → Shared → Prop} {s : Shared} {K : Frag} {x D : Addr} {ox : Obj} {od : Obj}
theorem exc_class {Q : Option Value → Shared → Prop} (X : K.In s.heap) (I : InstAt s.heap x ox D (some od)) (hga : findIn K (.ref D) "__getattribute__" = some (some (.builtin "BaseException.__getattribute__"))) (hnga : findIn K (.ref D) "__getattr__" = some none)
    (hdct : hasDictIn K D = true) (ha : findIn K (.ref D) "__class__" = some (some (.builtin "object.__class__")))
    (hn : specialIn K (.builtin "object.__class__") "__get__" = some (some (.builtin "getset_descriptor.__get__"))) (htk : takesIn K (.builtin "object.__class__") = some true) (hm : mroIn K D (.type "object") = some true) (hb : mroIn K D (.type "BaseException") = some true)
    (h : Q (some (.ref D)) { s with toks := s.toks + 1 }) : wpAny (model prog w) A (getAttr? (.ref x) "__class__") Q E s := by
  have hf : findObj K D (some od) "__class__" = some (.bind (.builtin "getset_descriptor.__get__") (.builtin "object.__class__")) := findObj_data (by obtain ⟨cd, hc, _⟩ := any_some hdct; rw [hc]; rfl) ha hn htk
  obtain ⟨hh, g, d, t, os⟩ := s
  dsimp only at X I h
  have L0 := I.type (M := model prog w)
  have L1 := looks_findIn (M := model prog w) X hga
  have L2 := looks_findIn (M := model prog w) X hnga
  have L3 := looks_find (M := model prog w) X I hf
  have L4 : Looks (model prog w) hh (isInstance (.ref x) (.type "BaseException")) true := L0.andThen (looks_mroIn X hb)
  have FX := PySem.F.attrBase_Exception.ga
  unfold getAttr? getAttrBy? getAttrBy
  refine wpAny_bind (wpAny_mkText (wpAny_bind (wpAny_attempt (wpAny_holding (wpAny_bind (L0.at (wpAny_bind (L1.at ?_))))))))
  show wpAny _ _ (getAttrByItsOwn (.ref x) (.str "__class__" t) (.ref D) (.builtin "BaseException.__getattribute__") false false) _ _ _
  unfold getAttrByItsOwn hookBefore callGetattribute boundAndCalled
  refine wpAny_bind (wpAny_ite_true (c := onTheHeap (.ref D)) rfl (L2.at ?_))
  refine wpAny_bind (wpAny_attempt (wpAny_holding ?_))
  show wpAny _ _ (bindSpecial (.builtin "BaseException.__getattribute__") (.ref x) >>= _) _ _ _
  refine wpAny_bind (wpAny_of_eq (FX.bind _) ?_)
  refine wpAny_mono (Q := fun v s' => v = .ref D ∧ s' = ⟨hh, g, d, t + 1, os⟩) (E := fun _ _ => False) ?_ (fun v s' hv => ?_) fun _ _ z => z.elim
  · refine wpAny_call (codeAny_call_builtin FX.plain PySem.F.entry_bexc_ga (@check_slot (model prog w) _ _ _ "BaseException.__getattribute__" "BaseException" "__getattribute__" (.ref x) [.str "__class__" t] [] _ bga_kind bga_split L4 (PySem.F.args_bexc_ga _ _) ?_))
    unfold Builtin.«object.__getattribute__»
    refine wpAny_bind (wpAny_pure (wpAny_bind (wpAny_pure (wpAny_bind (L0.at (wpAny_bind (L3.at ?_)))))))
    dsimp only
    show wpAny _ _ (holding [.builtin "object.__class__"] (call (.builtin "getset_descriptor.__get__") [.builtin "object.__class__", .ref x, .ref D]) >>= ret) _ _ _
    refine wpAny_bind (wpAny_holding (wpAny_call (class_get (s := ⟨hh, g, d, t + 1, os⟩) X I hm ?_)))
    exact wpAny_pure ⟨rfl, rfl⟩
  · obtain ⟨rfl, rfl⟩ := hv
    exact wpAny_pure (wpAny_pure h)
theorem exc_nested {c : Value} {dep : Int} {tk : Tok} {Q : Fin → Shared → Prop} (X : K.In s.heap) (I : InstAt s.heap x ox D (some od)) (hga : findIn K (.ref D) "__getattribute__" = some (some (.builtin "BaseException.__getattribute__"))) (hnga : findIn K (.ref D) "__getattr__" = some none)
    (hdct : hasDictIn K D = true) (ha : findIn K (.ref D) "__class__" = some (some (.builtin "object.__class__")))
    (hn : specialIn K (.builtin "object.__class__") "__get__" = some (some (.builtin "getset_descriptor.__get__"))) (htk : takesIn K (.builtin "object.__class__") = some true) (hm : mroIn K D (.type "object") = some true) (hb : mroIn K D (.type "BaseException") = some true)
    (hty : Looks (model prog w) s.heap (typeOf c) (.type "type")) (his : Looks (model prog w) s.heap (isType c) true)
    (hne : (Value.ref D == c) = false) (hsub : Looks (model prog w) s.heap (isSubtype (.ref D) c) false) (h : Q (.done (.ret (.bool false))) { s with toks := s.toks + 1 }) :
    wpAny (model prog w) A (Builtin.«isinstance.nested» ⟨[.ref x, c, .int dep tk], []⟩) Q E s := by
  obtain ⟨cdD, hcD, _⟩ := any_some hdct
  have hisD : Looks (model prog w) s.heap (isType (.ref D)) true := by
    unfold clsIn at hcD
    split at hcD
    · rename_i c' d' cd' sl' ho
      intro A' Q' E' s' k q
      unfold isType loadHead
      exact wpAny_bind (wpAny_loadPart (k _ _ (X _ _ ho)) (wpAny_pure q))
    · cases hcD
  obtain ⟨h0, g, d, tt, os⟩ := s
  have L0 := I.type (M := model prog w)
  have LI : Looks (model prog w) h0 (isInstance (.ref x) c) false := L0.andThen hsub
  unfold Builtin.«isinstance.nested»
  refine wpAny_bind (L0.at ?_)
  rw [if_neg (fun q => by rw [hne] at q; exact Bool.noConfusion q)]
  refine wpAny_bind (hty.at ?_)
  rw [if_pos (by decide)]
  k_delta "plainIsInstance"
  refine wpAny_bind (wpAny_bind (his.at ?_))
  simp only [Bool.not_true, Bool.false_eq_true, if_false]
  refine wpAny_bind (LI.at ?_)
  simp only [Bool.false_eq_true, if_false]
  refine wpAny_bind (exc_class X I hga hnga hdct ha hn htk hm hb ?_)
  refine wpAny_bind (hisD.at ?_)
  simp only [Bool.not_true, Bool.false_eq_true, if_false]
  refine wpAny_bind (wpAny_rule ?_)
  refine hsub.at ?_
  first
    | exact wpAny_pure h
    | exact wpAny_pure (wpAny_pure h)
    | exact wpAny_bind (wpAny_pure (wpAny_pure h))
theorem exc_isn {C : Addr} {Q : Value → Shared → Prop} (X : K.In s.heap) (I : InstAt s.heap x ox D (some od)) (e : kin_not K D C = true) (hga : findIn K (.ref D) "__getattribute__" = some (some (.builtin "BaseException.__getattribute__"))) (hnga : findIn K (.ref D) "__getattr__" = some none)
    (hdct : hasDictIn K D = true) (ha : findIn K (.ref D) "__class__" = some (some (.builtin "object.__class__")))
    (hn : specialIn K (.builtin "object.__class__") "__get__" = some (some (.builtin "getset_descriptor.__get__"))) (htk : takesIn K (.builtin "object.__class__") = some true) (hm : mroIn K D (.type "object") = some true) (hb : mroIn K D (.type "BaseException") = some true)
    (h : Q (.bool false) { s with toks := s.toks + 1 }) : wpAny (model prog w) A (call (.builtin "isinstance") [.ref x, .ref C]) Q E s := by
  unfold kin_not at e
  rw [Bool.and_eq_true, Bool.and_eq_true, Bool.and_eq_true] at e
  obtain ⟨⟨⟨e0, e1⟩, e2⟩, e3⟩ := e
  have hne : (Value.ref D == Value.ref C) = false := Bool.eq_false_iff.mpr fun q => of_decide_eq_true e0 (Value.ref.inj (beq_iff_eq.mp q))
  refine call_isinstance (S := fun _ R s => (K.In s.heap ∧ InstAt s.heap x ox D (some od)) ∧ R (.ok (.ret (.bool false))) { s with toks := s.toks + 1 })
    (fun _ _ _ _ _ hs => isinstance_outer (exc_nested hs.1.1 hs.1.2 hga hnga hdct ha hn htk hm hb (looks_typeIn hs.1.1 (beq_iff_eq.mp e2)) ?_ hne (looks_subIn hs.1.1 (beq_iff_eq.mp e3)) hs.2) (by intro q; cases q)) ⟨⟨X, I⟩, h⟩
  have X' := hs.1.1
  unfold clsIn at e1
  split at e1
  · rename_i c' d' cd' sl' ho
    intro A' Q' E' s' k q
    unfold isType loadHead
    exact wpAny_bind (wpAny_loadPart (k _ _ (X' _ _ ho)) (wpAny_pure q))
  · cases e1
end
end Mine
end EzExc7
section EzRr1
open PySem PySem.W PyProof.Rows PySem.Calls
namespace Mine
set_option maxRecDepth 100000
set_option maxHeartbeats 1000000
local macro_rules | `(tactic| k_in) => `(tactic| first | k_in_fast | exact Frag.In.keeps (by k_asm) (Fr.keep (by k_asm)))
local macro_rules | `(tactic| k_room) => `(tactic| ktr_room)
local macro_rules | `(tactic| k_units) => `(tactic| ktr_units)
local macro_rules | `(tactic| k_fill) => `(tactic| (k_with_none; (k_with "eval Name" => (k_here; k_dflt (first | (refine' nameX_K ?F ?X ?T ?e ?_ ?a ?b ?c; (case F => k_asm); (case X => k_asm); (case T => k_asm); (case e => k_is); (case a => kernel_rfl); (case b => kernel_rfl); (case c => kernel_rfl); k_whole) | (refine' nameX_C ?N ?h ?m ?d ?_ ?a ?b ?c; (case h => rfl); (case N => k_asm); (case m => k_mem); (case d => k_asm); (case a => kernel_rfl); (case b => kernel_rfl); (case c => kernel_rfl); k_whole) | (refine' nameX_L ?F ?v ?_ ?a ?b ?c; (case F => k_asm); (case v => rfl); (case a => kernel_rfl); (case b => kernel_rfl); (case c => kernel_rfl); k_whole) | (refine' nameX_B ?F ?X ?T ?e ?v ?n ?_ ?a ?b ?c; (case F => k_asm); (case X => k_asm); (case T => k_asm); (case e => k_is); (case v => boot_fast); (case n => decide); (case a => kernel_rfl); (case b => kernel_rfl); (case c => kernel_rfl); k_whole)))); (k_with "ite" => (k_closed; first | (refine ite_pos ?h ?_; (case h => k_dflt (decide +kernel))) | (refine ite_neg ?h ?_; (case h => k_dflt (decide +kernel))))); (k_with "getMethod bytes" => (k_here; (with_reducible refine by_ends_method ?_))); (k_with "call builtin:bytes.endswith" => (k_here; refine by_ends ?_)); (k_with "binaryOp Add bytes bytes" => (k_here; (with_reducible show wpAny _ _ (binaryOp Operator.Add (Value.bytes _ _) (Value.bytes _ _)) _ _ _); (refine by_add (by first | omega | (simp only [List.length_append]; omega)) ?_); intro _ _)); (k_with "inplaceOp Add bytes bytes" => (k_here; (refine by_iadd (by first | omega | (simp only [List.length_append]; omega)) ?_); intro _ _)); (k_with "subscriptTail" => (k_here; (with_reducible show wpAny _ _ (subscriptTail _ _ (Value.bytes _ _) (Value.ref _)) _ _ _); k_dflt (refine' by_slice (s := ⟨_, _, _, _, _⟩) ?k1 ?k2 ?k3 ?k4 ?k5 ?_ ?k6 ?k7; (case k1 => k_asm); (case k2 => k_asm); (case k3 => constructor); (case k4 => constructor); (case k5 => first | omega | (simp only [List.length_append, List.length_cons, List.length_nil]; omega)); (case k6 => with_unfolding_all rfl); (case k7 => intro _; with_unfolding_all rfl); k_whole); intro h' t' tk' F' N'; (try k_sweep))); (k_with "call builtin:len" => (k_here; (with_reducible show wpAny _ _ (call (Value.builtin "len") [Value.bytes (List.toArray _) _]) _ _ _); (refine by_len (by first | omega | (simp only [List.length_append]; omega)) ?_); intro _ _)); (k_with "callWith" => (k_here; (with_reducible show wpAny _ _ (callWith _ (Value.builtin _) _ _ (backToKw _ (keywordEach (_ :: _) _))) _ _ _); refine callWith_kwM ?_)); (k_with "call builtin:bytes.decode" => (k_here; (with_reducible rename DecR _ _ => kDec); refine kDec _ _ _ _ _ _ _ _ _ ?_; intro _ _)); (k_with "call builtin:bytes.decode" => (k_here; (with_reducible rename Dec _ _ => kDec); refine kDec _ _ _ _ _ _ _ _ ?_; intro _ _)); (k_with "truthy bytes" => (k_here; (with_reducible show wpAny _ _ (truthy (Value.bytes _ _)) _ _ _); (refine by_truthy ?h1 ?h2 ?_; (case h1 => simp only [List.length_cons]; omega); (case h2 => simp only [List.length_cons]; omega)); intro _)); (k_with "subscriptTail" => (k_here; (with_reducible show wpAny _ _ (subscriptTail _ _ (Value.bytes _ _) (Value.ref _)) _ _ _); k_dflt (refine' by_sliceR (s := ⟨_, _, _, _, _⟩) ?k1 ?k2 ?k3 ?k4 ?k5 ?kr ?_ ?k6 ?k7; (case k1 => k_asm); (case k2 => k_asm); (case k3 => constructor); (case k4 => constructor); (case k5 => simp only [List.length_cons]; omega); (case kr => first | exact cut_one | exact cut_rest); (case k6 => with_unfolding_all rfl); (case k7 => intro _; with_unfolding_all rfl); k_whole); intro h' t' tk' F' N'; (try k_sweep))); (k_with "call type:int" => (k_here; (with_reducible show wpAny _ _ (call (Value.type "int") [Value.bytes (List.toArray (nb _)) _]) _ _ _); (refine call_intB ?h1 ?h2 ?_; (case h1 => omega); (case h2 => omega)); intro _ _))))
theorem rr_num (w : World) (p : Program) (loose : List Str) (mean : ExcName → Option Value) (mg mb : Str → Option Value) (k kp : K4) (sb sd b bd ba pl pp pd en ed : Addr) (h1 h2 : Int) (t1 t2 u0 u te1 te2 : Tok) (dis de : Bool) (hA : Apart sb sd b bd ba pl pp pd en ed) (z : Int) (hz1 : -(10 ^ 7 : Int) < z) (hz2 : z < 10 ^ 7) : RR w p loose mean mg mb k kp sb sd b bd ba pl pp pd en ed h1 h2 t1 t2 u0 u te1 te2 dis de 20 (.num z) := by
  intro bs q t ps vs n R' S
  k_fill
  intro dp un gd outer base g A₀ s R B st X T hW hsz hPre hd hu kont
  refine' enterCC st X T hW hsz ?ho ?hcd ?hroom ?hbind ?hkind ?hnd ?_ ?c2 ?c3 ?c4
  case ho => k_is
  case hcd => k_is
  case hroom => omega
  case hbind => first | exact BindsTo.of_eq rfl | exact binds_K (X.keeps fun b o e => st b o e) rfl (by k_is) rfl rfl rfl
  case hkind => rfl
  case hnd => decide +kernel
  case c2 => rfl
  case c3 => rfl
  case c4 => rfl
  intro L' h₁ tk₁ cells F N Y hlt
  obtain ⟨o1, o2, o3, hE, d1, d2, d3⟩ := CellsAre.three Y
  subst hE
  clear Y
  dsimp only [List.cons_append, List.nil_append] at N hlt
  have hap : ∀ x ∈ [(L' + 1 + 1 + 1, o1), (L' + 1 + 1, o2), (L' + 1, o3)] ++ [(pp, instObj 1077 pd), (pd, parD kp u (.ref en) (.ref pl) (.ref sb)), (en, encOb de ed te1 te2), (ed, dictOf [] 0)], x.1 ∉ ([sb, sd, b, bd, ba, pl] : List Addr) := rr_apart hA (k := k) hlt
  have N0 : News g L' h₁ ([(sb, instObj 934 sd), (sd, sbD k (.ref pl) 4 u0 .none b), (b, instObj 601 bd), (bd, bioD h1 h2 t1 t2 ba ((q : Nat) : Int) t), (ba, baObj (bs).toArray), (pl, listOf (vs).toArray n)] ++ ([(L' + 1 + 1 + 1, o1), (L' + 1 + 1, o2), (L' + 1, o3)] ++ [(pp, instObj 1077 pd), (pd, parD kp u (.ref en) (.ref pl) (.ref sb)), (en, encOb de ed te1 te2), (ed, dictOf [] 0)])) := News.perm N (by
    intro x hx
    simp only [List.cons_append, List.nil_append, List.mem_cons, List.not_mem_nil, or_false] at hx
    rcases hx with rfl | rfl | rfl | rfl | rfl | rfl | rfl | rfl | rfl | rfl | rfl | rfl | rfl <;> k_mem)
  clear N
  dsimp only [List.cons_append, List.nil_append] at N0
  replace d1 : o1.data = .cell (some (.ref 300)) := d1
  replace d2 : o2.data = .cell (some (.bool dis)) := d2
  replace d3 : o3.data = .cell (some (.ref pp)) := d3
  replace F : Fr g L' h₁ (fun _ => none) := F
  have hnl := nb_len (n := z) (by omega) (by omega)
  refine C_cons (C_Assign_Name (C_Call ?_))
  k_steps
  refine C_callKW0 (K := Mine.frag.heap_1 w.params) ?kK ?kA ?_
  case kK => k_is
  case kA => rfl
  k_steps
  rename Fr g L' _ _ => kF
  rename News g L' _ _ => kN
  (try dsimp only [List.cons_append, List.nil_append])
  refine' s6_readline (keep := _) (line := 58 :: nb z) (R' := R') B kF X T kN hap rfl rfl ?hl ?hll ?hS ?hd ?hu ?_
  case hd => show dp + 1 + 14 < recursionLimit; omega
  case hu => show un + 3 + 8 * 14 < cLine; omega
  case hl => exact fun hm => (List.mem_cons.mp hm).elim (by decide) (nb_no10 z)
  case hll => simp only [List.length_cons]; omega
  case hS => exact (show (Vl.num z).wr ++ R' = (58 :: nb z) ++ 13 :: 10 :: R' by simp [Vl.wr]) ▸ S
  intro h₄ t₄ bs' q' vs' ps' n' tq' tv' F₄ N₄ S₄
  clear kF kN
  dsimp only [List.cons_append, List.nil_append] at N₄
  (try dsimp only)
  k_steps
  all_goals (try dsimp only)
  refine C_consK ?_
  k_steps
  all_goals (try dsimp only)
  refine C_consK ?_
  k_steps
  all_goals (try dsimp only)
  refine C_consK ?_
  k_steps
  all_goals (try dsimp only)
  rename News g L' _ _ => kN7
  refine kont _ _ _ (Fr.keep (by assumption)) ⟨[], bs', q', vs', ps', n', tq', (fun _ h => nomatch h), (by unfold Got; exact ⟨_, rfl⟩), S₄, fun x hx => ?_⟩
  simp only [List.cons_append, List.nil_append, List.mem_cons, List.not_mem_nil, or_false] at hx
  rcases hx with rfl | rfl | rfl | rfl | rfl | rfl | rfl | rfl | rfl | rfl <;> exact kN7.get (by k_mem)
theorem rr_null (w : World) (p : Program) (loose : List Str) (mean : ExcName → Option Value) (mg mb : Str → Option Value) (k kp : K4) (sb sd b bd ba pl pp pd en ed : Addr) (h1 h2 : Int) (t1 t2 u0 u te1 te2 : Tok) (dis de : Bool) (hA : Apart sb sd b bd ba pl pp pd en ed)  : RR w p loose mean mg mb k kp sb sd b bd ba pl pp pd en ed h1 h2 t1 t2 u0 u te1 te2 dis de 20 (.null) := by
  intro bs q t ps vs n R' S
  k_fill
  intro dp un gd outer base g A₀ s R B st X T hW hsz hPre hd hu kont
  refine' enterCC st X T hW hsz ?ho ?hcd ?hroom ?hbind ?hkind ?hnd ?_ ?c2 ?c3 ?c4
  case ho => k_is
  case hcd => k_is
  case hroom => omega
  case hbind => first | exact BindsTo.of_eq rfl | exact binds_K (X.keeps fun b o e => st b o e) rfl (by k_is) rfl rfl rfl
  case hkind => rfl
  case hnd => decide +kernel
  case c2 => rfl
  case c3 => rfl
  case c4 => rfl
  intro L' h₁ tk₁ cells F N Y hlt
  obtain ⟨o1, o2, o3, hE, d1, d2, d3⟩ := CellsAre.three Y
  subst hE
  clear Y
  dsimp only [List.cons_append, List.nil_append] at N hlt
  have hap : ∀ x ∈ [(L' + 1 + 1 + 1, o1), (L' + 1 + 1, o2), (L' + 1, o3)] ++ [(pp, instObj 1077 pd), (pd, parD kp u (.ref en) (.ref pl) (.ref sb)), (en, encOb de ed te1 te2), (ed, dictOf [] 0)], x.1 ∉ ([sb, sd, b, bd, ba, pl] : List Addr) := rr_apart hA (k := k) hlt
  have N0 : News g L' h₁ ([(sb, instObj 934 sd), (sd, sbD k (.ref pl) 4 u0 .none b), (b, instObj 601 bd), (bd, bioD h1 h2 t1 t2 ba ((q : Nat) : Int) t), (ba, baObj (bs).toArray), (pl, listOf (vs).toArray n)] ++ ([(L' + 1 + 1 + 1, o1), (L' + 1 + 1, o2), (L' + 1, o3)] ++ [(pp, instObj 1077 pd), (pd, parD kp u (.ref en) (.ref pl) (.ref sb)), (en, encOb de ed te1 te2), (ed, dictOf [] 0)])) := News.perm N (by
    intro x hx
    simp only [List.cons_append, List.nil_append, List.mem_cons, List.not_mem_nil, or_false] at hx
    rcases hx with rfl | rfl | rfl | rfl | rfl | rfl | rfl | rfl | rfl | rfl | rfl | rfl | rfl <;> k_mem)
  clear N
  dsimp only [List.cons_append, List.nil_append] at N0
  replace d1 : o1.data = .cell (some (.ref 300)) := d1
  replace d2 : o2.data = .cell (some (.bool dis)) := d2
  replace d3 : o3.data = .cell (some (.ref pp)) := d3
  replace F : Fr g L' h₁ (fun _ => none) := F
  obtain ⟨B0, hB⟩ : ∃ B : List UInt8, B = [45, 49] := ⟨_, rfl⟩
  have hb1 : B0.length < 10 := by rw [hB]; decide
  have hb2 : (10 : UInt8) ∉ B0 := by rw [hB]; decide
  have hnm : (B0 == [45, 49]) = true := by rw [hB]; rfl
  refine C_cons (C_Assign_Name (C_Call ?_))
  k_steps
  refine C_callKW0 (K := Mine.frag.heap_1 w.params) ?kK ?kA ?_
  case kK => k_is
  case kA => rfl
  k_steps
  rename Fr g L' _ _ => kF
  rename News g L' _ _ => kN
  (try dsimp only [List.cons_append, List.nil_append])
  refine' s6_readline (keep := _) (line := 36 :: B0) (R' := R') B kF X T kN hap rfl rfl ?hl ?hll ?hS ?hd ?hu ?_
  case hd => show dp + 1 + 14 < recursionLimit; omega
  case hu => show un + 3 + 8 * 14 < cLine; omega
  case hl => exact fun hm => (List.mem_cons.mp hm).elim (by decide) hb2
  case hll => simp only [List.length_cons]; omega
  case hS => exact (show (Vl.null).wr ++ R' = (36 :: B0) ++ 13 :: 10 :: R' by rw [hB]; simp [Vl.wr]) ▸ S
  intro h₄ t₄ bs' q' vs' ps' n' tq' tv' F₄ N₄ S₄
  clear kF kN
  dsimp only [List.cons_append, List.nil_append] at N₄
  (try dsimp only)
  k_steps
  all_goals (try dsimp only)
  refine C_consK ?_
  k_steps
  all_goals (try dsimp only)
  refine C_consK ?_
  k_steps
  all_goals (try dsimp only)
  refine C_consK ?_
  k_steps
  all_goals (try dsimp only)
  rename News g L' _ _ => kN7
  refine kont _ _ _ (Fr.keep (by assumption)) ⟨[], bs', q', vs', ps', n', tq', (fun _ h => nomatch h), (by unfold Got; rfl), S₄, fun x hx => ?_⟩
  simp only [List.cons_append, List.nil_append, List.mem_cons, List.not_mem_nil, or_false] at hx
  rcases hx with rfl | rfl | rfl | rfl | rfl | rfl | rfl | rfl | rfl | rfl <;> exact kN7.get (by k_mem)
theorem rr_non (w : World) (p : Program) (loose : List Str) (mean : ExcName → Option Value) (mg mb : Str → Option Value) (k kp : K4) (sb sd b bd ba pl pp pd en ed : Addr) (h1 h2 : Int) (t1 t2 u0 u te1 te2 : Tok) (dis de : Bool) (hA : Apart sb sd b bd ba pl pp pd en ed)  : RR w p loose mean mg mb k kp sb sd b bd ba pl pp pd en ed h1 h2 t1 t2 u0 u te1 te2 dis de 20 (.non) := by
  intro bs q t ps vs n R' S
  k_fill
  intro dp un gd outer base g A₀ s R B st X T hW hsz hPre hd hu kont
  refine' enterCC st X T hW hsz ?ho ?hcd ?hroom ?hbind ?hkind ?hnd ?_ ?c2 ?c3 ?c4
  case ho => k_is
  case hcd => k_is
  case hroom => omega
  case hbind => first | exact BindsTo.of_eq rfl | exact binds_K (X.keeps fun b o e => st b o e) rfl (by k_is) rfl rfl rfl
  case hkind => rfl
  case hnd => decide +kernel
  case c2 => rfl
  case c3 => rfl
  case c4 => rfl
  intro L' h₁ tk₁ cells F N Y hlt
  obtain ⟨o1, o2, o3, hE, d1, d2, d3⟩ := CellsAre.three Y
  subst hE
  clear Y
  dsimp only [List.cons_append, List.nil_append] at N hlt
  have hap : ∀ x ∈ [(L' + 1 + 1 + 1, o1), (L' + 1 + 1, o2), (L' + 1, o3)] ++ [(pp, instObj 1077 pd), (pd, parD kp u (.ref en) (.ref pl) (.ref sb)), (en, encOb de ed te1 te2), (ed, dictOf [] 0)], x.1 ∉ ([sb, sd, b, bd, ba, pl] : List Addr) := rr_apart hA (k := k) hlt
  have N0 : News g L' h₁ ([(sb, instObj 934 sd), (sd, sbD k (.ref pl) 4 u0 .none b), (b, instObj 601 bd), (bd, bioD h1 h2 t1 t2 ba ((q : Nat) : Int) t), (ba, baObj (bs).toArray), (pl, listOf (vs).toArray n)] ++ ([(L' + 1 + 1 + 1, o1), (L' + 1 + 1, o2), (L' + 1, o3)] ++ [(pp, instObj 1077 pd), (pd, parD kp u (.ref en) (.ref pl) (.ref sb)), (en, encOb de ed te1 te2), (ed, dictOf [] 0)])) := News.perm N (by
    intro x hx
    simp only [List.cons_append, List.nil_append, List.mem_cons, List.not_mem_nil, or_false] at hx
    rcases hx with rfl | rfl | rfl | rfl | rfl | rfl | rfl | rfl | rfl | rfl | rfl | rfl | rfl <;> k_mem)
  clear N
  dsimp only [List.cons_append, List.nil_append] at N0
  replace d1 : o1.data = .cell (some (.ref 300)) := d1
  replace d2 : o2.data = .cell (some (.bool dis)) := d2
  replace d3 : o3.data = .cell (some (.ref pp)) := d3
  replace F : Fr g L' h₁ (fun _ => none) := F
  obtain ⟨B0, hB⟩ : ∃ B : List UInt8, B = [45, 49] := ⟨_, rfl⟩
  have hb1 : B0.length < 10 := by rw [hB]; decide
  have hb2 : (10 : UInt8) ∉ B0 := by rw [hB]; decide
  have hnm : (B0 == [45, 49]) = true := by rw [hB]; rfl
  refine C_cons (C_Assign_Name (C_Call ?_))
  k_steps
  refine C_callKW0 (K := Mine.frag.heap_1 w.params) ?kK ?kA ?_
  case kK => k_is
  case kA => rfl
  k_steps
  rename Fr g L' _ _ => kF
  rename News g L' _ _ => kN
  (try dsimp only [List.cons_append, List.nil_append])
  refine' s6_readline (keep := _) (line := 42 :: B0) (R' := R') B kF X T kN hap rfl rfl ?hl ?hll ?hS ?hd ?hu ?_
  case hd => show dp + 1 + 14 < recursionLimit; omega
  case hu => show un + 3 + 8 * 14 < cLine; omega
  case hl => exact fun hm => (List.mem_cons.mp hm).elim (by decide) hb2
  case hll => simp only [List.length_cons]; omega
  case hS => exact (show (Vl.non).wr ++ R' = (42 :: B0) ++ 13 :: 10 :: R' by rw [hB]; simp [Vl.wr]) ▸ S
  intro h₄ t₄ bs' q' vs' ps' n' tq' tv' F₄ N₄ S₄
  clear kF kN
  dsimp only [List.cons_append, List.nil_append] at N₄
  (try dsimp only)
  k_steps
  all_goals (try dsimp only)
  refine C_consK ?_
  k_steps
  all_goals (try dsimp only)
  refine C_consK ?_
  k_steps
  all_goals (try dsimp only)
  refine C_consK ?_
  k_steps
  all_goals (try dsimp only)
  rename News g L' _ _ => kN7
  refine kont _ _ _ (Fr.keep (by assumption)) ⟨[], bs', q', vs', ps', n', tq', (fun _ h => nomatch h), (by unfold Got; rfl), S₄, fun x hx => ?_⟩
  simp only [List.cons_append, List.nil_append, List.mem_cons, List.not_mem_nil, or_false] at hx
  rcases hx with rfl | rfl | rfl | rfl | rfl | rfl | rfl | rfl | rfl | rfl <;> exact kN7.get (by k_mem)
theorem rr_line (w : World) (p : Program) (loose : List Str) (mean : ExcName → Option Value) (mg mb : Str → Option Value) (k kp : K4) (sb sd b bd ba pl pp pd en ed : Addr) (h1 h2 : Int) (t1 t2 u0 u te1 te2 : Tok) (dis de : Bool) (hA : Apart sb sd b bd ba pl pp pd en ed) (i : Nat) : RR w p loose mean mg mb k kp sb sd b bd ba pl pp pd en ed h1 h2 t1 t2 u0 u te1 te2 dis de 20 (.line i) := by
  intro bs q t ps vs n R' S
  k_fill
  intro dp un gd outer base g A₀ s R B st X T hW hsz hPre hd hu kont
  refine' enterCC st X T hW hsz ?ho ?hcd ?hroom ?hbind ?hkind ?hnd ?_ ?c2 ?c3 ?c4
  case ho => k_is
  case hcd => k_is
  case hroom => omega
  case hbind => first | exact BindsTo.of_eq rfl | exact binds_K (X.keeps fun b o e => st b o e) rfl (by k_is) rfl rfl rfl
  case hkind => rfl
  case hnd => decide +kernel
  case c2 => rfl
  case c3 => rfl
  case c4 => rfl
  intro L' h₁ tk₁ cells F N Y hlt
  obtain ⟨o1, o2, o3, hE, d1, d2, d3⟩ := CellsAre.three Y
  subst hE
  clear Y
  dsimp only [List.cons_append, List.nil_append] at N hlt
  have hap : ∀ x ∈ [(L' + 1 + 1 + 1, o1), (L' + 1 + 1, o2), (L' + 1, o3)] ++ [(pp, instObj 1077 pd), (pd, parD kp u (.ref en) (.ref pl) (.ref sb)), (en, encOb de ed te1 te2), (ed, dictOf [] 0)], x.1 ∉ ([sb, sd, b, bd, ba, pl] : List Addr) := rr_apart hA (k := k) hlt
  have N0 : News g L' h₁ ([(sb, instObj 934 sd), (sd, sbD k (.ref pl) 4 u0 .none b), (b, instObj 601 bd), (bd, bioD h1 h2 t1 t2 ba ((q : Nat) : Int) t), (ba, baObj (bs).toArray), (pl, listOf (vs).toArray n)] ++ ([(L' + 1 + 1 + 1, o1), (L' + 1 + 1, o2), (L' + 1, o3)] ++ [(pp, instObj 1077 pd), (pd, parD kp u (.ref en) (.ref pl) (.ref sb)), (en, encOb de ed te1 te2), (ed, dictOf [] 0)])) := News.perm N (by
    intro x hx
    simp only [List.cons_append, List.nil_append, List.mem_cons, List.not_mem_nil, or_false] at hx
    rcases hx with rfl | rfl | rfl | rfl | rfl | rfl | rfl | rfl | rfl | rfl | rfl | rfl | rfl <;> k_mem)
  clear N
  dsimp only [List.cons_append, List.nil_append] at N0
  replace d1 : o1.data = .cell (some (.ref 300)) := d1
  replace d2 : o2.data = .cell (some (.bool dis)) := d2
  replace d3 : o3.data = .cell (some (.ref pp)) := d3
  replace F : Fr g L' h₁ (fun _ => none) := F
  obtain ⟨B0, X0, hB, hX, hDec⟩ : ∃ B X, B = lineB i ∧ X = lineT i ∧ Dec B X := ⟨_, _, rfl, rfl, dec_line i⟩
  have hb1 : B0.length < 10 ∧ (10 : UInt8) ∉ B0 := by rw [hB]; unfold lineB; split <;> decide
  obtain ⟨hb1, hb2⟩ := hb1
  refine C_cons (C_Assign_Name (C_Call ?_))
  k_steps
  refine C_callKW0 (K := Mine.frag.heap_1 w.params) ?kK ?kA ?_
  case kK => k_is
  case kA => rfl
  k_steps
  rename Fr g L' _ _ => kF
  rename News g L' _ _ => kN
  (try dsimp only [List.cons_append, List.nil_append])
  refine' s6_readline (keep := _) (line := 43 :: B0) (R' := R') B kF X T kN hap rfl rfl ?hl ?hll ?hS ?hd ?hu ?_
  case hd => show dp + 1 + 14 < recursionLimit; omega
  case hu => show un + 3 + 8 * 14 < cLine; omega
  case hl => exact fun hm => (List.mem_cons.mp hm).elim (by decide) hb2
  case hll => simp only [List.length_cons]; omega
  case hS => exact (show (Vl.line i).wr ++ R' = (43 :: B0) ++ 13 :: 10 :: R' by rw [hB]; simp [Vl.wr]) ▸ S
  intro h₄ t₄ bs' q' vs' ps' n' tq' tv' F₄ N₄ S₄
  clear kF kN
  dsimp only [List.cons_append, List.nil_append] at N₄
  (try dsimp only)
  k_steps
  all_goals (try dsimp only)
  refine C_consK ?_
  k_steps
  all_goals (try dsimp only)
  refine C_consK ?_
  k_steps
  all_goals (try dsimp only)
  refine C_consK ?_
  k_steps
  all_goals (try dsimp only)
  all_goals (cases dis <;> cases de)
  all_goals (refine C_consK ?_)
  all_goals k_steps
  all_goals (try dsimp only)
  all_goals (refine C_consK ?_)
  all_goals k_steps
  all_goals (try dsimp only)
  all_goals subst hB hX
  all_goals
    rename News g L' _ _ => kN7
    refine kont _ _ _ (Fr.keep (by assumption)) ⟨[], bs', q', vs', ps', n', tq', (fun _ h => nomatch h), (by unfold Got; exact ⟨_, rfl⟩), S₄, fun x hx => ?_⟩
    simp only [List.cons_append, List.nil_append, List.mem_cons, List.not_mem_nil, or_false] at hx
    rcases hx with rfl | rfl | rfl | rfl | rfl | rfl | rfl | rfl | rfl | rfl <;> exact kN7.get (by k_mem)
theorem rr_oct (w : World) (p : Program) (loose : List Str) (mean : ExcName → Option Value) (mg mb : Str → Option Value) (k kp : K4) (sb sd b bd ba pl pp pd en ed : Addr) (h1 h2 : Int) (t1 t2 u0 u te1 te2 : Tok) (dis de : Bool) (hA : Apart sb sd b bd ba pl pp pd en ed) (i : Nat) : RR w p loose mean mg mb k kp sb sd b bd ba pl pp pd en ed h1 h2 t1 t2 u0 u te1 te2 dis de 20 (.oct i) := by
  intro bs q t ps vs n R' S
  k_fill
  intro dp un gd outer base g A₀ s R B st X T hW hsz hPre hd hu kont
  refine' enterCC st X T hW hsz ?ho ?hcd ?hroom ?hbind ?hkind ?hnd ?_ ?c2 ?c3 ?c4
  case ho => k_is
  case hcd => k_is
  case hroom => omega
  case hbind => first | exact BindsTo.of_eq rfl | exact binds_K (X.keeps fun b o e => st b o e) rfl (by k_is) rfl rfl rfl
  case hkind => rfl
  case hnd => decide +kernel
  case c2 => rfl
  case c3 => rfl
  case c4 => rfl
  intro L' h₁ tk₁ cells F N Y hlt
  obtain ⟨o1, o2, o3, hE, d1, d2, d3⟩ := CellsAre.three Y
  subst hE
  clear Y
  dsimp only [List.cons_append, List.nil_append] at N hlt
  have hap : ∀ x ∈ [(L' + 1 + 1 + 1, o1), (L' + 1 + 1, o2), (L' + 1, o3)] ++ [(pp, instObj 1077 pd), (pd, parD kp u (.ref en) (.ref pl) (.ref sb)), (en, encOb de ed te1 te2), (ed, dictOf [] 0)], x.1 ∉ ([sb, sd, b, bd, ba, pl] : List Addr) := rr_apart hA (k := k) hlt
  have N0 : News g L' h₁ ([(sb, instObj 934 sd), (sd, sbD k (.ref pl) 4 u0 .none b), (b, instObj 601 bd), (bd, bioD h1 h2 t1 t2 ba ((q : Nat) : Int) t), (ba, baObj (bs).toArray), (pl, listOf (vs).toArray n)] ++ ([(L' + 1 + 1 + 1, o1), (L' + 1 + 1, o2), (L' + 1, o3)] ++ [(pp, instObj 1077 pd), (pd, parD kp u (.ref en) (.ref pl) (.ref sb)), (en, encOb de ed te1 te2), (ed, dictOf [] 0)])) := News.perm N (by
    intro x hx
    simp only [List.cons_append, List.nil_append, List.mem_cons, List.not_mem_nil, or_false] at hx
    rcases hx with rfl | rfl | rfl | rfl | rfl | rfl | rfl | rfl | rfl | rfl | rfl | rfl | rfl <;> k_mem)
  clear N
  dsimp only [List.cons_append, List.nil_append] at N0
  replace d1 : o1.data = .cell (some (.ref 300)) := d1
  replace d2 : o2.data = .cell (some (.bool dis)) := d2
  replace d3 : o3.data = .cell (some (.ref pp)) := d3
  replace F : Fr g L' h₁ (fun _ => none) := F
  obtain ⟨B0, X0, hB, hX, hDec⟩ : ∃ B X, B = octB i ∧ X = octT i ∧ Dec B X := ⟨_, _, rfl, rfl, dec_oct i⟩
  have hb1 : B0.length < 10 := by rw [hB]; unfold octB; split <;> decide
  have hnl := nb_len (n := ((B0.length : Nat) : Int)) (by omega) (by omega)
  have hnm : (nb ((B0.length : Nat) : Int) == [45, 49]) = false := by
    cases q : (nb ((B0.length : Nat) : Int) == [45, 49]) with
    | false => rfl
    | true => exact absurd (beq_iff_eq.mp q) (nb_not _ (by omega) _)
  refine C_cons (C_Assign_Name (C_Call ?_))
  k_steps
  refine C_callKW0 (K := Mine.frag.heap_1 w.params) ?kK ?kA ?_
  case kK => k_is
  case kA => rfl
  k_steps
  rename Fr g L' _ _ => kF
  rename News g L' _ _ => kN
  (try dsimp only [List.cons_append, List.nil_append])
  refine' s6_readline (keep := _) (line := 36 :: nb ((B0.length : Nat) : Int)) (R' := B0 ++ 13 :: 10 :: R') B kF X T kN hap rfl rfl ?hl ?hll ?hS ?hd ?hu ?_
  case hd => show dp + 1 + 14 < recursionLimit; omega
  case hu => show un + 3 + 8 * 14 < cLine; omega
  case hl => exact fun hm => (List.mem_cons.mp hm).elim (by decide) (nb_no10 _)
  case hll => simp only [List.length_cons]; omega
  case hS => exact (show (Vl.oct i).wr ++ R' = (36 :: nb ((B0.length : Nat) : Int)) ++ 13 :: 10 :: (B0 ++ 13 :: 10 :: R') by rw [hB]; simp [Vl.wr]) ▸ S
  intro h₄ t₄ bs' q' vs' ps' n' tq' tv' F₄ N₄ S₄
  clear kF kN
  dsimp only [List.cons_append, List.nil_append] at N₄
  (try dsimp only)
  k_steps
  all_goals (try dsimp only)
  refine C_consK ?_
  k_steps
  all_goals (try dsimp only)
  refine C_consK ?_
  k_steps
  all_goals (try dsimp only)
  refine C_cons (C_If ?_)
  k_steps
  all_goals (try dsimp only)
  refine C_cons (C_If ?_)
  k_steps
  all_goals (try dsimp only)
  refine C_cons (C_If ?_)
  k_steps
  all_goals (try dsimp only)
  refine C_cons (C_If ?_)
  k_steps
  all_goals (try dsimp only)
  refine C_cons (C_If ?_)
  k_steps
  all_goals (try dsimp only)
  refine C_cons (C_Assign_Name (C_Call ?_))
  k_steps
  refine C_callKW (K := Mine.frag.heap_1 w.params) ?kK ?kA ?_
  case kK => k_is
  case kA => rfl
  k_steps
  rename Fr g L' _ _ => kF
  rename News g L' _ _ => kN
  (try dsimp only [List.cons_append, List.nil_append])
  have kN2 := News.tail' kN
  refine' s6_read (keep := _) (pay := B0) (R' := R') B kF X T kN2 hap rfl rfl rfl ?hll ?hS ?hd ?hu ?_
  case hd => show dp + 1 + 14 < recursionLimit; omega
  case hu => show un + 3 + 8 * 14 < cLine; omega
  case hll => omega
  case hS => exact S₄
  clear kN2
  intro h₅ t₅ bs2 q2 vs2 ps2 n2 tq2 tv2 F₅ N₅ S₅
  clear kF kN
  dsimp only [List.cons_append, List.nil_append] at N₅
  (try dsimp only)
  k_steps
  all_goals (try dsimp only)
  repeat (refine C_nil ?_; (try dsimp only))
  all_goals (cases dis <;> cases de)
  all_goals (refine C_consK ?_)
  all_goals k_steps
  all_goals (try dsimp only)
  all_goals (refine C_consK ?_)
  all_goals k_steps
  all_goals (try dsimp only)
  all_goals subst hB hX
  all_goals
    rename News g L' _ _ => kN7
    refine kont _ _ _ (Fr.keep (by assumption)) ⟨[], bs2, q2, vs2, ps2, n2, tq2, (fun _ h => nomatch h), (by unfold Got; exact ⟨_, rfl⟩), S₅, fun x hx => ?_⟩
    simp only [List.cons_append, List.nil_append, List.mem_cons, List.not_mem_nil, or_false] at hx
    rcases hx with rfl | rfl | rfl | rfl | rfl | rfl | rfl | rfl | rfl | rfl <;> exact kN7.get (by k_mem)
end Mine
end EzRr1
section EzRr2
open PySem PySem.W PyProof.Rows PySem.Calls
namespace Mine
set_option maxRecDepth 100000
set_option maxHeartbeats 1000000
local macro_rules | `(tactic| k_in) => `(tactic| first | k_in_fast | exact Frag.In.keeps (by k_asm) (Fr.keep (by k_asm)))
local macro_rules | `(tactic| k_room) => `(tactic| ktr_room)
local macro_rules | `(tactic| k_units) => `(tactic| ktr_units)
local macro_rules | `(tactic| k_fill) => `(tactic| (k_with_none; (k_with "eval Name" => (k_here; k_dflt (first | (refine' nameX_K ?F ?X ?T ?e ?_ ?a ?b ?c; (case F => k_asm); (case X => k_asm); (case T => k_asm); (case e => k_is); (case a => kernel_rfl); (case b => kernel_rfl); (case c => kernel_rfl); k_whole) | (refine' nameX_C ?N ?h ?m ?d ?_ ?a ?b ?c; (case h => rfl); (case N => k_asm); (case m => k_mem); (case d => k_asm); (case a => kernel_rfl); (case b => kernel_rfl); (case c => kernel_rfl); k_whole) | (refine' nameX_L ?F ?v ?_ ?a ?b ?c; (case F => k_asm); (case v => rfl); (case a => kernel_rfl); (case b => kernel_rfl); (case c => kernel_rfl); k_whole) | (refine' nameX_B ?F ?X ?T ?e ?v ?n ?_ ?a ?b ?c; (case F => k_asm); (case X => k_asm); (case T => k_asm); (case e => k_is); (case v => boot_fast); (case n => decide); (case a => kernel_rfl); (case b => kernel_rfl); (case c => kernel_rfl); k_whole)))); (k_with "ite" => (k_closed; first | (refine ite_pos ?h ?_; (case h => k_dflt (decide +kernel))) | (refine ite_neg ?h ?_; (case h => k_dflt (decide +kernel))))); (k_with "getMethod ref" => (k_here; (with_reducible show wpAny _ _ (getMethod (Value.ref _) (PySem.Str.ofString "parse_error") _) _ _ _); k_dflt (refine' kmu_cm ?k1 ?k2 ?k3 ?k4 ?k5 ?k6 ?k7 ?k8 ?k9 ?k10 ?k11 ?k12 ?k13 ?_; (case k1 => k_asm); (case k2 => k_asm); (case k3 => k_asm); (case k4 => k_inst); (case k5 => k_is); (case k6 => k_is); (case k7 => k_is); (case k8 => k_is); (case k9 => k_is); (case k10 => k_is); (case k11 => decide +kernel); (case k12 => k_get); (case k13 => k_is); k_whole; intro q' h' F' N' l1; (try k_lt l1); (try k_sweep)))); (k_with "getMethod bytes" => (k_here; (with_reducible refine by_ends_method ?_))); (k_with "call builtin:bytes.endswith" => (k_here; refine by_ends ?_)); (k_with "binaryOp Add bytes bytes" => (k_here; (with_reducible show wpAny _ _ (binaryOp Operator.Add (Value.bytes _ _) (Value.bytes _ _)) _ _ _); (refine by_add (by first | omega | (simp only [List.length_append]; omega)) ?_); intro _ _)); (k_with "inplaceOp Add bytes bytes" => (k_here; (refine by_iadd (by first | omega | (simp only [List.length_append]; omega)) ?_); intro _ _)); (k_with "subscriptTail" => (k_here; (with_reducible show wpAny _ _ (subscriptTail _ _ (Value.bytes _ _) (Value.ref _)) _ _ _); k_dflt (refine' by_slice (s := ⟨_, _, _, _, _⟩) ?k1 ?k2 ?k3 ?k4 ?k5 ?_ ?k6 ?k7; (case k1 => k_asm); (case k2 => k_asm); (case k3 => constructor); (case k4 => constructor); (case k5 => first | omega | (simp only [List.length_append, List.length_cons, List.length_nil]; omega)); (case k6 => with_unfolding_all rfl); (case k7 => intro _; with_unfolding_all rfl); k_whole); intro h' t' tk' F' N'; (try k_sweep))); (k_with "call builtin:len" => (k_here; (with_reducible show wpAny _ _ (call (Value.builtin "len") [Value.bytes (List.toArray _) _]) _ _ _); (refine by_len (by first | omega | (simp only [List.length_append]; omega)) ?_); intro _ _)); (k_with "callWith" => (k_here; (with_reducible show wpAny _ _ (callWith _ (Value.builtin _) _ _ (backToKw _ (keywordEach (_ :: _) _))) _ _ _); refine callWith_kwM ?_)); (k_with "call builtin:bytes.decode" => (k_here; (with_reducible rename DecR _ _ => kDec); refine kDec _ _ _ _ _ _ _ _ _ ?_; intro _ _)); (k_with "call builtin:bytes.decode" => (k_here; (with_reducible rename Dec _ _ => kDec); refine kDec _ _ _ _ _ _ _ _ ?_; intro _ _)); (k_with "truthy bytes" => (k_here; (with_reducible show wpAny _ _ (truthy (Value.bytes _ _)) _ _ _); (refine by_truthy ?h1 ?h2 ?_; (case h1 => simp only [List.length_cons]; omega); (case h2 => simp only [List.length_cons]; omega)); intro _)); (k_with "subscriptTail" => (k_here; (with_reducible show wpAny _ _ (subscriptTail _ _ (Value.bytes _ _) (Value.ref _)) _ _ _); k_dflt (refine' by_sliceR (s := ⟨_, _, _, _, _⟩) ?k1 ?k2 ?k3 ?k4 ?k5 ?kr ?_ ?k6 ?k7; (case k1 => k_asm); (case k2 => k_asm); (case k3 => constructor); (case k4 => constructor); (case k5 => simp only [List.length_cons]; omega); (case kr => first | exact cut_one | exact cut_rest); (case k6 => with_unfolding_all rfl); (case k7 => intro _; with_unfolding_all rfl); k_whole); intro h' t' tk' F' N'; (try k_sweep))); (k_with "call type:int" => (k_here; (with_reducible show wpAny _ _ (call (Value.type "int") [Value.bytes (List.toArray (nb _)) _]) _ _ _); (refine call_intB ?h1 ?h2 ?_; (case h1 => omega); (case h2 => omega)); intro _ _))))
theorem rr_errG (w : World) (p : Program) (loose : List Str) (mean : ExcName → Option Value) (mg mb : Str → Option Value) (k kp : K4) (sb sd b bd ba pl pp pd en ed : Addr) (h1 h2 : Int) (t1 t2 u0 u te1 te2 : Tok) (dis de : Bool) (hA : Apart sb sd b bd ba pl pp pd en ed) (i : Nat) (B0 : List UInt8) (X0 A0 : Str) (hDec : DecR B0 X0) (hB : B0 = errB i) (hA0 : A0 = errA i) (hpe : ∀ tx, DoesC (Mine.frag.heap_1 w.params) PySem.Challenge.rw_ez0337_01.row.prog w p loose mean mg mb 12 987 [.ref 1077, .str X0 tx] [] [] (fun _ => True) (fun g v h' => ∃ e t1 dx od ta, v = .ref e ∧ h'.get? dx = some od ∧ g.get? dx = none ∧ h'.get? e = some (excOb 102 t1 (some dx)) ∧ h'.get? t1 = some (tupOb [.str A0 ta]) ∧ g.get? e = none ∧ g.get? t1 = none)) : RR w p loose mean mg mb k kp sb sd b bd ba pl pp pd en ed h1 h2 t1 t2 u0 u te1 te2 dis de 20 (.err i) := by
  intro bs q t ps vs n R' S
  k_fill
  intro dp un gd outer base g A₀ s R B st X T hW hsz hPre hd hu kont
  refine' enterCC st X T hW hsz ?ho ?hcd ?hroom ?hbind ?hkind ?hnd ?_ ?c2 ?c3 ?c4
  case ho => k_is
  case hcd => k_is
  case hroom => omega
  case hbind => first | exact BindsTo.of_eq rfl | exact binds_K (X.keeps fun b o e => st b o e) rfl (by k_is) rfl rfl rfl
  case hkind => rfl
  case hnd => decide +kernel
  case c2 => rfl
  case c3 => rfl
  case c4 => rfl
  intro L' h₁ tk₁ cells F N Y hlt
  obtain ⟨o1, o2, o3, hE, d1, d2, d3⟩ := CellsAre.three Y
  subst hE
  clear Y
  dsimp only [List.cons_append, List.nil_append] at N hlt
  have hap : ∀ x ∈ [(L' + 1 + 1 + 1, o1), (L' + 1 + 1, o2), (L' + 1, o3)] ++ [(pp, instObj 1077 pd), (pd, parD kp u (.ref en) (.ref pl) (.ref sb)), (en, encOb de ed te1 te2), (ed, dictOf [] 0)], x.1 ∉ ([sb, sd, b, bd, ba, pl] : List Addr) := rr_apart hA (k := k) hlt
  have N0 : News g L' h₁ ([(sb, instObj 934 sd), (sd, sbD k (.ref pl) 4 u0 .none b), (b, instObj 601 bd), (bd, bioD h1 h2 t1 t2 ba ((q : Nat) : Int) t), (ba, baObj (bs).toArray), (pl, listOf (vs).toArray n)] ++ ([(L' + 1 + 1 + 1, o1), (L' + 1 + 1, o2), (L' + 1, o3)] ++ [(pp, instObj 1077 pd), (pd, parD kp u (.ref en) (.ref pl) (.ref sb)), (en, encOb de ed te1 te2), (ed, dictOf [] 0)])) := News.perm N (by
    intro x hx
    simp only [List.cons_append, List.nil_append, List.mem_cons, List.not_mem_nil, or_false] at hx
    rcases hx with rfl | rfl | rfl | rfl | rfl | rfl | rfl | rfl | rfl | rfl | rfl | rfl | rfl <;> k_mem)
  clear N
  dsimp only [List.cons_append, List.nil_append] at N0
  replace d1 : o1.data = .cell (some (.ref 300)) := d1
  replace d2 : o2.data = .cell (some (.bool dis)) := d2
  replace d3 : o3.data = .cell (some (.ref pp)) := d3
  replace F : Fr g L' h₁ (fun _ => none) := F
  have hb1 : B0.length < 20 ∧ (10 : UInt8) ∉ B0 := by rw [hB]; unfold errB; split <;> decide
  obtain ⟨hb1, hb2⟩ := hb1
  refine C_cons (C_Assign_Name (C_Call ?_))
  k_steps
  refine C_callKW0 (K := Mine.frag.heap_1 w.params) ?kK ?kA ?_
  case kK => k_is
  case kA => rfl
  k_steps
  rename Fr g L' _ _ => kF
  rename News g L' _ _ => kN
  (try dsimp only [List.cons_append, List.nil_append])
  refine' s6_readline (keep := _) (line := 45 :: B0) (R' := R') B kF X T kN hap rfl rfl ?hl ?hll ?hS ?hd ?hu ?_
  case hd => show dp + 1 + 14 < recursionLimit; omega
  case hu => show un + 3 + 8 * 14 < cLine; omega
  case hl => exact fun hm => (List.mem_cons.mp hm).elim (by decide) hb2
  case hll => simp only [List.length_cons]; omega
  case hS => exact (show (Vl.err i).wr ++ R' = (45 :: B0) ++ 13 :: 10 :: R' by rw [hB]; simp [Vl.wr]) ▸ S
  intro h₄ t₄ bs' q' vs' ps' n' tq' tv' F₄ N₄ S₄
  clear kF kN
  dsimp only [List.cons_append, List.nil_append] at N₄
  (try dsimp only)
  k_steps
  all_goals (try dsimp only)
  refine C_consK ?_
  k_steps
  all_goals (try dsimp only)
  refine C_consK ?_
  k_steps
  all_goals (try dsimp only)
  refine C_cons (C_If ?_)
  k_steps
  all_goals (try dsimp only)
  refine C_consK ?_
  k_steps
  all_goals (try dsimp only)
  refine C_cons (C_Assign_Name (C_Call ?_))
  k_steps
  refine' C_callM (K := Mine.frag.heap_1 w.params) (fa := 987) (self := .ref 1077) ?kO ?_
  case kO => k_is
  k_steps
  · exact News.get (by assumption) (.head _)
  · exact X.keeps (Fr.keep (by assumption))
  rename Fr g L' _ _ => kF
  rename News g L' _ _ => kN
  (try dsimp only [List.cons_append, List.nil_append])
  refine useM (hpe _) (kN.get (.head _)) B kF X kN T rfl (fun _ q => nomatch q) (fun q hq => ⟨hq, fun hm => nomatch hm⟩) (fun _ _ _ => trivial) ?hd ?hu ?_
  case hd => show dp + 1 + 12 < recursionLimit; omega
  case hu => show un + 3 + 8 * 12 < cLine; omega
  intro v₅ h₅ t₅ g₅ F₅ N₅ st₅ kp₅ st₅' post₅ bld
  obtain ⟨e, tt, dx, od, ta, rfl, e5, e6, e1, e2, e3, e4⟩ := post₅
  have N₆ := News.append (bld [(e, excOb 102 tt (some dx)), (tt, tupOb [.str A0 ta]), (dx, od)] (all3 ⟨e1, .inr e3⟩ ⟨e2, .inr e4⟩ ⟨e5, .inr e6⟩)) N₅
  have hin : ∀ y ∈ ([sb, sd, b, bd, ba, pl, pp, pd, en, ed] : List Addr), ∃ o, g₅.get? y = some o := by
    intro y hy
    simp only [List.mem_cons, List.not_mem_nil, or_false] at hy
    rcases hy with rfl | rfl | rfl | rfl | rfl | rfl | rfl | rfl | rfl | rfl
    all_goals exact ⟨_, kp₅ (_, _) (by k_mem)⟩
  clear kF kN N₅ bld
  dsimp only [List.cons_append, List.nil_append] at N₆
  (try dsimp only)
  k_steps
  all_goals (try dsimp only)
  refine C_cons (C_If ?_)
  k_steps
  refine' exc_isn (od := od) ?k1 ⟨News.get (by assumption) (.head _), rfl, rfl, News.get (by assumption) (.tail _ (.tail _ (.head _)))⟩ ?k3 ?k4 ?k5 ?k6 ?k7 ?k8 ?k9 ?k10 ?k11 ?_
  case k1 => k_in
  case k3 => kin_no
  case k4 => k_is
  case k5 => k_is
  case k6 => k_is
  case k7 => k_is
  case k8 => k_is
  case k9 => k_is
  case k10 => k_is
  case k11 => k_is
  k_steps
  all_goals (try dsimp only)
  refine C_nil ?_
  (try dsimp only)
  refine C_consK ?_
  k_steps
  all_goals (try dsimp only)
  rename News g L' _ _ => kN7
  refine kont _ _ _ (Fr.keep (by assumption)) ⟨[(e, excOb 102 tt (some dx)), (tt, tupOb [.str A0 ta])], bs', q', vs', ps', n', tq', (all2 ⟨kN7.get (by k_mem), kN7.fresh (a := e) (by k_mem), fun hm => by obtain ⟨o, ho⟩ := hin _ hm; rw [e3] at ho; cases ho⟩ ⟨kN7.get (by k_mem), kN7.fresh (a := tt) (by k_mem), fun hm => by obtain ⟨o, ho⟩ := hin _ hm; rw [e4] at ho; cases ho⟩), (by unfold Got; exact ⟨e, tt, dx, ta, rfl, .head _, by rw [← hA0]; exact .tail _ (.head _)⟩), S₄, fun x hx => ?_⟩
  simp only [List.cons_append, List.nil_append, List.mem_cons, List.not_mem_nil, or_false] at hx
  rcases hx with rfl | rfl | rfl | rfl | rfl | rfl | rfl | rfl | rfl | rfl <;> exact kN7.get (by k_mem)
theorem rr_err (w : World) (p : Program) (loose : List Str) (mean : ExcName → Option Value) (mg mb : Str → Option Value) (k kp : K4) (sb sd b bd ba pl pp pd en ed : Addr) (h1 h2 : Int) (t1 t2 u0 u te1 te2 : Tok) (dis de : Bool) (hA : Apart sb sd b bd ba pl pp pd en ed) : ∀ i, RR w p loose mean mg mb k kp sb sd b bd ba pl pp pd en ed h1 h2 t1 t2 u0 u te1 te2 dis de 20 (.err i)
  | 0 => rr_errG w p loose mean mg mb k kp sb sd b bd ba pl pp pd en ed h1 h2 t1 t2 u0 u te1 te2 dis de hA 0 _ _ _ (dec_err 0) rfl rfl fun tx => pe0_does w p loose mean mg mb tx
  | 1 => rr_errG w p loose mean mg mb k kp sb sd b bd ba pl pp pd en ed h1 h2 t1 t2 u0 u te1 te2 dis de hA 1 _ _ _ (dec_err 1) rfl rfl fun tx => pe1_does w p loose mean mg mb tx
  | 2 => rr_errG w p loose mean mg mb k kp sb sd b bd ba pl pp pd en ed h1 h2 t1 t2 u0 u te1 te2 dis de hA 2 _ _ _ (dec_err 2) rfl rfl fun tx => pe2_does w p loose mean mg mb tx
  | i + 3 => rr_errG w p loose mean mg mb k kp sb sd b bd ba pl pp pd en ed h1 h2 t1 t2 u0 u te1 te2 dis de hA (i + 3) _ _ _ (dec_err (i + 3)) rfl rfl fun tx => pe3_does w p loose mean mg mb tx
end Mine
end EzRr2
section EzRr3
open PySem PySem.W PyProof.Rows PySem.Calls
namespace Mine
set_option maxRecDepth 100000
set_option maxHeartbeats 1000000
section
variable {w : World} {p : Program} {loose : List Str} {mean : ExcName → Option Value} {mg mb : Str → Option Value} {dp un : Nat} {gd : Option (List Code)} {outer : List Env} {base g : Heap} {A₀ : Around} {s : Shared} {cn : Str} {cs : Scope} {L a : Addr} {ccd : Value} {cl : List (Str × Addr)} {m : Str → Option Value}
  {k kp : K4} {sb sd b bd ba pl pp pd en ed : Addr} {h1 h2 : Int} {t1 t2 u0 u te1 te2 : Tok} {dis de : Bool}

theorem s6_rr {nn : Nat} {V : Vl} (C : RR w p loose mean mg mb k kp sb sd b bd ba pl pp pd en ed h1 h2 t1 t2 u0 u te1 te2 dis de nn V) {Q : Value → Shared → Prop} (B : Below A₀ base outer g) (F : Fr g L s.heap m) (X : (Mine.frag.heap_1 w.params).In g) (T : Top p loose mean mg mb g) {keep : List (Addr × Obj)} {bs : List UInt8} {q : Nat} {t : Tok} {ps : List (List UInt8)} {vs : List Value} {n : Nat} {R' : List UInt8}
    (S : Strm bs q vs ps (V.wr ++ R')) (N : News g L s.heap (([(sb, instObj 934 sd), (sd, sbD k (.ref pl) 4 u0 .none b), (b, instObj 601 bd), (bd, bioD h1 h2 t1 t2 ba ((q : Nat) : Int) t), (ba, baObj (bs).toArray), (pl, listOf (vs).toArray n)] ++ [(pp, instObj 1077 pd), (pd, parD kp u (.ref en) (.ref pl) (.ref sb)), (en, encOb de ed te1 te2), (ed, dictOf [] 0)]) ++ keep)) (hap : ∀ q ∈ keep, q.1 ∉ ([sb, sd, b, bd, ba, pl, pp, pd, en, ed] : List Addr)) (hk : cs.kind = .function) (hd : dp + nn < recursionLimit) (hu : un + 8 * nn < cLine)
    (h : ∀ v h' t' (T2 : List (Addr × Obj)) bs' q' vs' ps' n' tq', Fr g L h' m → News g L h' (([(sb, instObj 934 sd), (sd, sbD k (.ref pl) 4 u0 .none b), (b, instObj 601 bd), (bd, bioD h1 h2 t1 t2 ba ((q' : Nat) : Int) tq'), (ba, baObj (bs').toArray), (pl, listOf (vs').toArray n')] ++ [(pp, instObj 1077 pd), (pd, parD kp u (.ref en) (.ref pl) (.ref sb)), (en, encOb de ed te1 te2), (ed, dictOf [] 0)]) ++ (T2 ++ keep)) → (∀ x ∈ T2, x.1 ∉ ([sb, sd, b, bd, ba, pl, pp, pd, en, ed] : List Addr) ∧ ∀ y ∈ keep, x.1 ≠ y.1) → Got (fun a o => (a, o) ∈ T2) (!dis && de) V v → Strm bs' q' vs' ps' R' → Q v { s with heap := h', toks := t' }) :
    wpC (model PySem.Challenge.rw_ez0337_01.row.prog w) (Ar dp un gd (envX cn cs L a ccd cl :: outer)) (call (.ref 1074) [.ref pp] [("disable_decoding", .bool dis), ("timeout", .ref 300)]) Q s := by
  refine useC (C bs q t ps vs n R' S) B F X N T hk (keepL := keep) (fun _ q => List.mem_append_left _ q) (fun q hq => ⟨List.mem_append_right _ hq, fun hm => hap q hq hm⟩) (fun _ _ _ => trivial) hd hu ?_
  intro v₄ h₄ t₄ g₄ F₄ N₄ st₄ kp₄ st₄' post₄ bld
  obtain ⟨T2, bs', q', vs', ps', n', tq', hT2, hG, S', hall⟩ := post₄
  have N₅ := bld ([(sb, instObj 934 sd), (sd, sbD k (.ref pl) 4 u0 .none b), (b, instObj 601 bd), (bd, bioD h1 h2 t1 t2 ba ((q' : Nat) : Int) tq'), (ba, baObj (bs').toArray), (pl, listOf (vs').toArray n')] ++ [(pp, instObj 1077 pd), (pd, parD kp u (.ref en) (.ref pl) (.ref sb)), (en, encOb de ed te1 te2), (ed, dictOf [] 0)]) (fun x hx => ⟨hall x hx, .inl (by
    simp only [List.cons_append, List.nil_append, List.mem_cons, List.not_mem_nil, or_false] at hx
    rcases hx with rfl | rfl | rfl | rfl | rfl | rfl | rfl | rfl | rfl | rfl <;> k_mem)⟩)
  have N₆ := bld T2 (fun x hx => ⟨(hT2 x hx).1, .inr (hT2 x hx).2.1⟩)
  refine h v₄ h₄ t₄ T2 bs' q' vs' ps' n' tq' F₄ (News.append N₅ (News.append N₆ N₄)) (fun x hx => ⟨(hT2 x hx).2.2, fun y hy e => ?_⟩) hG S'
  have z := kp₄ y hy
  rw [← e, (hT2 x hx).2.1] at z; cases z
end
theorem mem_sh {α : Type} (a b c d e : List α) : ∀ x ∈ (b ++ d) ++ (a ++ (c ++ e)), x ∈ a ++ (b ++ (c ++ (d ++ e))) := by
  intro x h
  simp only [List.mem_append] at h ⊢
  rcases h with (h | h) | h | h | h <;> simp [h]
theorem mem_sh2 {α : Type} (a b c d t e : List α) : ∀ x ∈ a ++ (b ++ (c ++ (d ++ (t ++ e)))), x ∈ (b ++ d) ++ (t ++ (a ++ (c ++ e))) := by
  intro x h
  simp only [List.mem_append] at h ⊢
  rcases h with h | h | h | h | h | h <;> simp [h]
theorem off_new {I C D : Addr} {six six' cells four Tl T2 keep : List (Addr × Obj)} {oI oC oD : Obj} (off : LCg.Off3 I C D (six ++ (cells ++ (four ++ Tl)))) (hs : six'.map (·.1) = six.map (·.1)) (hT2 : ∀ x ∈ T2, ∀ y ∈ [(I, oI), (C, oC), (D, oD)] ++ keep, x.1 ≠ y.1) :
    LCg.Off3 I C D (six' ++ (cells ++ (four ++ (T2 ++ Tl)))) := by
  have o := off.mem
  refine LCg.Off3.of fun p hp => ?_
  rcases List.mem_append.mp hp with hp | hp
  · have : p.1 ∈ six.map (·.1) := hs ▸ List.mem_map_of_mem hp
    obtain ⟨q, hq, e⟩ := List.mem_map.mp this
    rw [← e]; exact o q (List.mem_append_left _ hq)
  · rcases List.mem_append.mp hp with hp | hp
    · exact o p (List.mem_append_right _ (List.mem_append_left _ hp))
    · rcases List.mem_append.mp hp with hp | hp
      · exact o p (List.mem_append_right _ (List.mem_append_right _ (List.mem_append_left _ hp)))
      · rcases List.mem_append.mp hp with hp | hp
        · exact ⟨hT2 p hp (I, oI) (.head _), hT2 p hp (C, oC) (.tail _ (.head _)), hT2 p hp (D, oD) (.tail _ (.tail _ (.head _)))⟩
        · exact o p (List.mem_append_right _ (List.mem_append_right _ (List.mem_append_right _ hp)))
theorem ten_lt {L' : Addr} {l : List (Addr × Obj)} (hlt : ∀ x ∈ l, @LT.lt Nat _ x.1 L') {ten : List Addr} (ht : l.map (·.1) = ten) : ∀ y ∈ ten, @LT.lt Nat _ y L' := by
  intro y hy
  rw [← ht] at hy
  obtain ⟨q, hq, e⟩ := List.mem_map.mp hy
  rw [← e]; exact hlt q hq
theorem cells_off {L' : Addr} {ten : List Addr} {o1 o2 o3 : Obj} (hlt : ∀ y ∈ ten, @LT.lt Nat _ y L') : ∀ x ∈ [(L' + 1 + 1 + 1, o1), (L' + 1 + 1, o2), (L' + 1, o3)], x.1 ∉ ten := by
  have big : ∀ y : Nat, L' < y → y ∉ ten := fun y hy hm => Nat.lt_irrefl _ (Nat.lt_trans hy (hlt y hm))
  intro x hx
  simp only [List.mem_cons, List.not_mem_nil, or_false] at hx
  rcases hx with rfl | rfl | rfl
  · exact big _ (Nat.lt_succ_of_lt (Nat.lt_succ_of_lt (Nat.lt_succ_self L')))
  · exact big _ (Nat.lt_succ_of_lt (Nat.lt_succ_self L'))
  · exact big _ (Nat.lt_succ_self L')
theorem ten_ne {I : Addr} {l : List (Addr × Obj)} {ten : List Addr} (ht : ∀ y ∈ ten, ∃ o, (y, o) ∈ l) (h : ∀ p ∈ l, p.1 ≠ I) : I ∉ ten := fun hm => by
  obtain ⟨o, ho⟩ := ht I hm
  exact h _ ho rfl
end Mine
end EzRr3
section EzRr4
open PySem PySem.W PyProof.Rows PySem.Calls
namespace Mine
set_option maxRecDepth 100000
set_option maxHeartbeats 1000000
local macro_rules | `(tactic| k_in) => `(tactic| first | k_in_fast | exact Frag.In.keeps (by k_asm) (Fr.keep (by k_asm)))
local macro_rules | `(tactic| k_room) => `(tactic| ktr_room)
local macro_rules | `(tactic| k_units) => `(tactic| ktr_units)
local macro_rules | `(tactic| k_fill) => `(tactic| (k_with_none; (k_with "eval Name" => (k_here; k_dflt (first | (refine' nameX_K ?F ?X ?T ?e ?_ ?a ?b ?c; (case F => k_asm); (case X => k_asm); (case T => k_asm); (case e => k_is); (case a => kernel_rfl); (case b => kernel_rfl); (case c => kernel_rfl); k_whole) | (refine' nameX_C ?N ?h ?m ?d ?_ ?a ?b ?c; (case h => rfl); (case N => k_asm); (case m => k_mem); (case d => k_asm); (case a => kernel_rfl); (case b => kernel_rfl); (case c => kernel_rfl); k_whole) | (refine' nameX_L ?F ?v ?_ ?a ?b ?c; (case F => k_asm); (case v => rfl); (case a => kernel_rfl); (case b => kernel_rfl); (case c => kernel_rfl); k_whole) | (refine' nameX_B ?F ?X ?T ?e ?v ?n ?_ ?a ?b ?c; (case F => k_asm); (case X => k_asm); (case T => k_asm); (case e => k_is); (case v => boot_fast); (case n => decide); (case a => kernel_rfl); (case b => kernel_rfl); (case c => kernel_rfl); k_whole)))); (k_with "ite" => (k_closed; first | (refine ite_pos ?h ?_; (case h => k_dflt (decide +kernel))) | (refine ite_neg ?h ?_; (case h => k_dflt (decide +kernel))))); (k_with "getMethod bytes" => (k_here; (with_reducible refine by_ends_method ?_))); (k_with "call builtin:bytes.endswith" => (k_here; refine by_ends ?_)); (k_with "binaryOp Add bytes bytes" => (k_here; (with_reducible show wpAny _ _ (binaryOp Operator.Add (Value.bytes _ _) (Value.bytes _ _)) _ _ _); (refine by_add (by first | omega | (simp only [List.length_append]; omega)) ?_); intro _ _)); (k_with "inplaceOp Add bytes bytes" => (k_here; (refine by_iadd (by first | omega | (simp only [List.length_append]; omega)) ?_); intro _ _)); (k_with "subscriptTail" => (k_here; (with_reducible show wpAny _ _ (subscriptTail _ _ (Value.bytes _ _) (Value.ref _)) _ _ _); k_dflt (refine' by_slice (s := ⟨_, _, _, _, _⟩) ?k1 ?k2 ?k3 ?k4 ?k5 ?_ ?k6 ?k7; (case k1 => k_asm); (case k2 => k_asm); (case k3 => constructor); (case k4 => constructor); (case k5 => first | omega | (simp only [List.length_append, List.length_cons, List.length_nil]; omega)); (case k6 => with_unfolding_all rfl); (case k7 => intro _; with_unfolding_all rfl); k_whole); intro h' t' tk' F' N'; (try k_sweep))); (k_with "call builtin:len" => (k_here; (with_reducible show wpAny _ _ (call (Value.builtin "len") [Value.bytes (List.toArray _) _]) _ _ _); (refine by_len (by first | omega | (simp only [List.length_append]; omega)) ?_); intro _ _)); (k_with "callWith" => (k_here; (with_reducible show wpAny _ _ (callWith _ (Value.builtin _) _ _ (backToKw _ (keywordEach (_ :: _) _))) _ _ _); refine callWith_kwM ?_)); (k_with "call builtin:bytes.decode" => (k_here; (with_reducible rename DecR _ _ => kDec); refine kDec _ _ _ _ _ _ _ _ _ ?_; intro _ _)); (k_with "call builtin:bytes.decode" => (k_here; (with_reducible rename Dec _ _ => kDec); refine kDec _ _ _ _ _ _ _ _ ?_; intro _ _)); (k_with "truthy bytes" => (k_here; (with_reducible show wpAny _ _ (truthy (Value.bytes _ _)) _ _ _); (refine by_truthy ?h1 ?h2 ?_; (case h1 => simp only [List.length_cons]; omega); (case h2 => simp only [List.length_cons]; omega)); intro _)); (k_with "subscriptTail" => (k_here; (with_reducible show wpAny _ _ (subscriptTail _ _ (Value.bytes _ _) (Value.ref _)) _ _ _); k_dflt (refine' by_sliceR (s := ⟨_, _, _, _, _⟩) ?k1 ?k2 ?k3 ?k4 ?k5 ?kr ?_ ?k6 ?k7; (case k1 => k_asm); (case k2 => k_asm); (case k3 => constructor); (case k4 => constructor); (case k5 => simp only [List.length_cons]; omega); (case kr => first | exact cut_one | exact cut_rest); (case k6 => with_unfolding_all rfl); (case k7 => intro _; with_unfolding_all rfl); k_whole); intro h' t' tk' F' N'; (try k_sweep))); (k_with "call type:int" => (k_here; (with_reducible show wpAny _ _ (call (Value.type "int") [Value.bytes (List.toArray (nb _)) _]) _ _ _); (refine call_intB ?h1 ?h2 ?_; (case h1 => omega); (case h2 => omega)); intro _ _))))
theorem rr_list (w : World) (p : Program) (loose : List Str) (mean : ExcName → Option Value) (mg mb : Str → Option Value) (k kp : K4) (sb sd b bd ba pl pp pd en ed : Addr) (h1 h2 : Int) (t1 t2 u0 u te1 te2 : Tok) (dis de : Bool) (hA : Apart sb sd b bd ba pl pp pd en ed) (nn : Nat) (hnn : 20 ≤ nn) (xs : List Vl) (hlen : xs.length < 4) (ih : ∀ x ∈ xs, RR w p loose mean mg mb k kp sb sd b bd ba pl pp pd en ed h1 h2 t1 t2 u0 u te1 te2 dis de nn x) : RR w p loose mean mg mb k kp sb sd b bd ba pl pp pd en ed h1 h2 t1 t2 u0 u te1 te2 dis de (nn + 2) (.list xs) := by
  intro bs q t ps vs n R' S
  k_fill
  intro dp un gd outer base g A₀ s R B st X T hW hsz hPre hd hu kont
  refine' enterCC st X T hW hsz ?ho ?hcd ?hroom ?hbind ?hkind ?hnd ?_ ?c2 ?c3 ?c4
  case ho => k_is
  case hcd => k_is
  case hroom => omega
  case hbind => first | exact BindsTo.of_eq rfl | exact binds_K (X.keeps fun b o e => st b o e) rfl (by k_is) rfl rfl rfl
  case hkind => rfl
  case hnd => decide +kernel
  case c2 => rfl
  case c3 => rfl
  case c4 => rfl
  intro L' h₁ tk₁ cells F N Y hlt
  obtain ⟨o1, o2, o3, hE, d1, d2, d3⟩ := CellsAre.three Y
  subst hE
  clear Y
  dsimp only [List.cons_append, List.nil_append] at N hlt
  have hap : ∀ x ∈ [(L' + 1 + 1 + 1, o1), (L' + 1 + 1, o2), (L' + 1, o3)] ++ [(pp, instObj 1077 pd), (pd, parD kp u (.ref en) (.ref pl) (.ref sb)), (en, encOb de ed te1 te2), (ed, dictOf [] 0)], x.1 ∉ ([sb, sd, b, bd, ba, pl] : List Addr) := rr_apart hA (k := k) hlt
  have N0 : News g L' h₁ ([(sb, instObj 934 sd), (sd, sbD k (.ref pl) 4 u0 .none b), (b, instObj 601 bd), (bd, bioD h1 h2 t1 t2 ba ((q : Nat) : Int) t), (ba, baObj (bs).toArray), (pl, listOf (vs).toArray n)] ++ ([(L' + 1 + 1 + 1, o1), (L' + 1 + 1, o2), (L' + 1, o3)] ++ [(pp, instObj 1077 pd), (pd, parD kp u (.ref en) (.ref pl) (.ref sb)), (en, encOb de ed te1 te2), (ed, dictOf [] 0)])) := News.perm N (by
    intro x hx
    simp only [List.cons_append, List.nil_append, List.mem_cons, List.not_mem_nil, or_false] at hx
    rcases hx with rfl | rfl | rfl | rfl | rfl | rfl | rfl | rfl | rfl | rfl | rfl | rfl | rfl <;> k_mem)
  clear N
  dsimp only [List.cons_append, List.nil_append] at N0
  replace d1 : o1.data = .cell (some (.ref 300)) := d1
  replace d2 : o2.data = .cell (some (.bool dis)) := d2
  replace d3 : o3.data = .cell (some (.ref pp)) := d3
  replace F : Fr g L' h₁ (fun _ => none) := F
  have hnl := nb_len (n := ((xs.length : Nat) : Int)) (by omega) (by omega)
  have hnm : (nb ((xs.length : Nat) : Int) == [45, 49]) = false := by
    cases q : (nb ((xs.length : Nat) : Int) == [45, 49]) with
    | false => rfl
    | true => exact absurd (beq_iff_eq.mp q) (nb_not _ (by omega) _)
  refine C_cons (C_Assign_Name (C_Call ?_))
  k_steps
  refine C_callKW0 (K := Mine.frag.heap_1 w.params) ?kK ?kA ?_
  case kK => k_is
  case kA => rfl
  k_steps
  rename Fr g L' _ _ => kF
  rename News g L' _ _ => kN
  (try dsimp only [List.cons_append, List.nil_append])
  refine' s6_readline (keep := _) (line := 42 :: nb ((xs.length : Nat) : Int)) (R' := wrs xs ++ R') B kF X T kN hap rfl rfl ?hl ?hll ?hS ?hd ?hu ?_
  case hd => show dp + 1 + 14 < recursionLimit; omega
  case hu => show un + 3 + 8 * 14 < cLine; omega
  case hl => exact fun hm => (List.mem_cons.mp hm).elim (by decide) (nb_no10 _)
  case hll => simp only [List.length_cons]; omega
  case hS => exact (show (Vl.list xs).wr ++ R' = (42 :: nb ((xs.length : Nat) : Int)) ++ 13 :: 10 :: (wrs xs ++ R') by simp [Vl.wr]) ▸ S
  intro h₄ t₄ bs' q' vs' ps' n' tq' tv' F₄ N₄ S₄
  clear kF kN
  dsimp only [List.cons_append, List.nil_append] at N₄
  (try dsimp only)
  k_steps
  all_goals (try dsimp only)
  refine C_consK ?_
  k_steps
  all_goals (try dsimp only)
  refine C_consK ?_
  k_steps
  all_goals (try dsimp only)
  refine C_cons (C_If ?_)
  k_steps
  all_goals (try dsimp only)
  refine C_cons (C_If ?_)
  k_steps
  all_goals (try dsimp only)
  refine C_cons (C_If ?_)
  k_steps
  all_goals (try dsimp only)
  refine C_cons (C_If ?_)
  k_steps
  all_goals (try dsimp only)
  refine C_cons (C_If ?_)
  k_steps
  all_goals (try dsimp only)
  refine C_cons (C_If ?_)
  k_steps
  all_goals (try dsimp only)
  refine C_cons (C_If ?_)
  k_steps
  all_goals (try dsimp only)
  rename Fr g L' _ _ => kF
  rename News g L' _ _ => kN
  have kN2 := News.tail' kN
  have hten := ten_lt hlt (ten := [sb, sd, b, bd, ba, pl, pp, pd, en, ed]) rfl
  refine' C_cons (C_Assign_LC (h₀ := g) (L := L') xs.length (rrJ k kp sb sd b bd ba pl pp pd en ed h1 h2 t1 t2 u0 u te1 te2 dis de L' o1 o2 o3 R' xs) kF rfl rfl ?hsz ?hsw ?hclos ?hcell ?hkind ?hnames ?hx ?hy ?hp ?h ?hJ ?hsm ?hn)
  case hsz => rw [sizeLine_eq]; omega
  case hsw => with_unfolding_all rfl
  case hclos => with_unfolding_all rfl
  case hcell => decide
  case hkind => rfl
  case hnames => decide
  case hx => rfl
  case hy => rfl
  case hp => rfl
  case hJ => exact fun i ys news hj => hj.1
  case hsm => exact (range_small hlen).1
  case hn => exact (range_small hlen).2
  case h =>
    iterate 12 (first | walk1 | (dsimp only; walk1))
    refine range1_rows kF kN2 ?_
    clear kN kN2
    intro h₆ t₆ ta tb tc hr F₆ N₆ _
    refine ⟨_, ta, tb, tc, _, rfl, F₆, N₆, hr, ⟨rfl, [], bs', q', vs', ps', n', tq', (fun _ h => nomatch h), (by rw [List.take_zero]; unfold Gots; trivial), S₄, rfl⟩, ?turn, ?fin⟩
    case turn =>
      intro i ys news' v I oI C oC D m₂ h tk hi hJ hNs hm Ft Nt off ne1 ne2 ne3
      obtain ⟨hyl, Tl, bs2, q2, vs2, ps2, n2, tq2, hT, hG, S2, rfl⟩ := hJ
      clear F₆ N₆ hr kF hNs hm
      have offm := off.mem
      have htn : ∀ y ∈ ([sb, sd, b, bd, ba, pl, pp, pd, en, ed] : List Addr), ∃ o, (y, o) ∈ [(sb, instObj 934 sd), (sd, sbD k (.ref pl) 4 u0 .none b), (b, instObj 601 bd), (bd, bioD h1 h2 t1 t2 ba ((q2 : Nat) : Int) tq2), (ba, baObj (bs2).toArray), (pl, listOf (vs2).toArray n2)] ++ ([(L' + 1 + 1 + 1, o1), (L' + 1 + 1, o2), (L' + 1, o3)] ++ ([(pp, instObj 1077 pd), (pd, parD kp u (.ref en) (.ref pl) (.ref sb)), (en, encOb de ed te1 te2), (ed, dictOf [] 0)] ++ Tl)) := by
        intro y hy
        simp only [List.mem_cons, List.not_mem_nil, or_false] at hy
        rcases hy with rfl | rfl | rfl | rfl | rfl | rfl | rfl | rfl | rfl | rfl <;> exact ⟨_, by k_mem⟩
      have hI1 := ten_ne htn fun p hp => (offm p hp).1
      have hC1 := ten_ne htn fun p hp => (offm p hp).2.1
      have hD1 := ten_ne htn fun p hp => (offm p hp).2.2
      clear htn offm
      have hkp : ∀ x ∈ [(I, oI), (C, oC), (D, LCg.lst ys)] ++ ([(L' + 1 + 1 + 1, o1), (L' + 1 + 1, o2), (L' + 1, o3)] ++ Tl), x.1 ∉ ([sb, sd, b, bd, ba, pl, pp, pd, en, ed] : List Addr) := by
        intro x hx
        rcases List.mem_append.mp hx with hx | hx
        · simp only [List.mem_cons, List.not_mem_nil, or_false] at hx
          rcases hx with rfl | rfl | rfl
          · exact hI1
          · exact hC1
          · exact hD1
        · exact (List.mem_append.mp hx).elim (cells_off hten x) (hT x)
      have hstr : wrs (xs.drop i) ++ R' = (xs[i]).wr ++ (wrs (xs.drop (i + 1)) ++ R') := by
        rw [List.drop_eq_getElem_cons hi, wrs, List.append_assoc]
      rw [hstr] at S2
      have ihx := ih _ (List.getElem_mem hi)
      have hgs : ∀ (T2 : List (Addr × Obj)) v', Got (fun a o => (a, o) ∈ T2) (!dis && de) xs[i] v' → Gots (fun a o => (a, o) ∈ T2 ++ Tl) (!dis && de) (xs.take (i + 1)) (ys ++ [v']) := fun T2 v' hv => by
        rw [List.take_add_one, List.getElem?_eq_getElem hi]
        exact Gots.snoc (Gots.mono (fun _ _ hm => List.mem_append_right _ hm) hG) (Got.mono (fun _ _ hm => List.mem_append_left _ hm) hv)
      dsimp only [List.cons_append, List.nil_append] at Nt
      refine C_Call ?_
      k_steps
      refine C_callKW0 (K := Mine.frag.heap_1 w.params) ?kK ?kA ?_
      case kK => k_is
      case kA => rfl
      k_steps
      rename Fr g L' _ _ => kF
      rename News g L' _ _ => kN
      (try dsimp only [List.cons_append, List.nil_append])
      have kN3 := News.perm kN (mem_sh [(I, oI), (C, oC), (D, LCg.lst ys)] [(sb, instObj 934 sd), (sd, sbD k (.ref pl) 4 u0 .none b), (b, instObj 601 bd), (bd, bioD h1 h2 t1 t2 ba ((q2 : Nat) : Int) tq2), (ba, baObj (bs2).toArray), (pl, listOf (vs2).toArray n2)] [(L' + 1 + 1 + 1, o1), (L' + 1 + 1, o2), (L' + 1, o3)] [(pp, instObj 1077 pd), (pd, parD kp u (.ref en) (.ref pl) (.ref sb)), (en, encOb de ed te1 te2), (ed, dictOf [] 0)] Tl)
      refine' s6_rr ihx B kF X T S2 kN3 hkp rfl ?hd ?hu ?_
      case hd => show dp + 1 + nn < recursionLimit; omega
      case hu => show un + 3 + 8 * nn < cLine; omega
      intro v₇ h₇ t₇ T2 bs3 q3 vs3 ps3 n3 tq3 F₇ N₇ hT2 hG2 S3
      exact ⟨_, _, _, rfl, F₇, News.perm N₇ (mem_sh2 [(I, oI), (C, oC), (D, LCg.lst ys)] [(sb, instObj 934 sd), (sd, sbD k (.ref pl) 4 u0 .none b), (b, instObj 601 bd), (bd, bioD h1 h2 t1 t2 ba ((q3 : Nat) : Int) tq3), (ba, baObj (bs3).toArray), (pl, listOf (vs3).toArray n3)] [(L' + 1 + 1 + 1, o1), (L' + 1 + 1, o2), (L' + 1, o3)] [(pp, instObj 1077 pd), (pd, parD kp u (.ref en) (.ref pl) (.ref sb)), (en, encOb de ed te1 te2), (ed, dictOf [] 0)] T2 Tl), off_new (six := [(sb, instObj 934 sd), (sd, sbD k (.ref pl) 4 u0 .none b), (b, instObj 601 bd), (bd, bioD h1 h2 t1 t2 ba ((q2 : Nat) : Int) tq2), (ba, baObj (bs2).toArray), (pl, listOf (vs2).toArray n2)]) (six' := [(sb, instObj 934 sd), (sd, sbD k (.ref pl) 4 u0 .none b), (b, instObj 601 bd), (bd, bioD h1 h2 t1 t2 ba ((q3 : Nat) : Int) tq3), (ba, baObj (bs3).toArray), (pl, listOf (vs3).toArray n3)]) (cells := [(L' + 1 + 1 + 1, o1), (L' + 1 + 1, o2), (L' + 1, o3)]) (four := [(pp, instObj 1077 pd), (pd, parD kp u (.ref en) (.ref pl) (.ref sb)), (en, encOb de ed te1 te2), (ed, dictOf [] 0)]) (Tl := Tl) (T2 := T2) off rfl (fun x hx => (hT2 x hx).2),
        ⟨by rw [List.length_append, List.length_singleton, hyl], T2 ++ Tl, bs3, q3, vs3, ps3, n3, tq3, fun x hx => (List.mem_append.mp hx).elim (fun hm => (hT2 x hm).1) (hT x), hgs _ _ hG2, S3, rfl⟩⟩
    case fin =>
      intro D h tk ys news' hJ Ft Nt off
      obtain ⟨hyl, Tl, bs2, q2, vs2, ps2, n2, tq2, hT, hG, S2, rfl⟩ := hJ
      clear F₆ N₆ hr kF
      rw [List.take_length] at hG
      rw [List.drop_length] at S2
      have hD1 : D ∉ ([sb, sd, b, bd, ba, pl, pp, pd, en, ed] : List Addr) := by
        dsimp only [List.cons_append, List.nil_append, LCg.Off1] at off
        intro hm
        simp only [List.mem_cons, List.not_mem_nil, or_false] at hm
        obtain ⟨f1, f2, f3, f4, f5, f6, f7, f8, f9, f10, f11, f12, f13, _⟩ := off
        rcases hm with rfl | rfl | rfl | rfl | rfl | rfl | rfl | rfl | rfl | rfl
        · exact f1 rfl
        · exact f2 rfl
        · exact f3 rfl
        · exact f4 rfl
        · exact f5 rfl
        · exact f6 rfl
        · exact f10 rfl
        · exact f11 rfl
        · exact f12 rfl
        · exact f13 rfl
      clear off
      dsimp only [List.cons_append, List.nil_append] at Nt
      repeat (refine C_nil ?_; (try dsimp only))
      all_goals (cases dis <;> cases de)
      all_goals (refine C_consK ?_)
      all_goals k_steps
      all_goals (try dsimp only)
      all_goals (refine C_consK ?_)
      all_goals k_steps
      all_goals (try dsimp only)
      all_goals
        rename News g L' _ _ => kN7
        refine kont _ _ _ (Fr.keep (by assumption)) ⟨(D, LCg.lst ys) :: Tl, bs2, q2, vs2, ps2, n2, tq2, ?_, by unfold Got; exact ⟨D, ys, ys.length, rfl, .head _, Gots.mono (fun _ _ hm => .tail _ hm) hG⟩, S2, fun x hx => ?_⟩
        · intro x hx
          rcases List.mem_cons.mp hx with rfl | hx
          · exact ⟨kN7.get (.head _), kN7.fresh (a := D) (.head _), hD1⟩
          · have hmm := kN7 x (.tail _ (.tail _ (.tail _ (.tail _ (.tail _ (.tail _ (.tail _ (.tail _ (.tail _ (.tail _ (.tail _ (.tail _ (.tail _ (.tail _ hx))))))))))))))
            exact ⟨hmm.1, hmm.2.2, hT x hx⟩
        · simp only [List.cons_append, List.nil_append, List.mem_cons, List.not_mem_nil, or_false] at hx
          rcases hx with rfl | rfl | rfl | rfl | rfl | rfl | rfl | rfl | rfl | rfl <;> exact kN7.get (by k_mem)
end Mine
end EzRr4
section EzRr5
open PySem PySem.W PyProof.Rows PySem.Calls
set_option maxRecDepth 100000
namespace Mine
theorem DoesC.up {K : Frag} {prog : Program} {w : World} {p : Program} {loose : List Str} {mean : ExcName → Option Value} {mg mb : Str → Option Value} {n n' : Nat} {f : Addr} {args : List Value} {kw : List (Str × Value)} {W : List (Addr × Obj)} {Pre : Heap → Prop} {Post : Heap → Value → Heap → Prop}
    (C : DoesC K prog w p loose mean mg mb n f args kw W Pre Post) (h : n ≤ n') : DoesC K prog w p loose mean mg mb n' f args kw W Pre Post :=
  fun dp un gd outer base g A₀ s R B st X T hW hsz hp hd hu k => C dp un gd outer base g A₀ s R B st X T hW hsz hp (by omega) (by omega) k
section
variable (w : World) (p : Program) (loose : List Str) (mean : ExcName → Option Value) (mg mb : Str → Option Value) (k kp : K4) (sb sd b bd ba pl pp pd en ed : Addr) (h1 h2 : Int) (t1 t2 u0 u te1 te2 : Tok) (dis de : Bool)

theorem RR.up {w : World} {p : Program} {loose : List Str} {mean : ExcName → Option Value} {mg mb : Str → Option Value} {k kp : K4} {sb sd b bd ba pl pp pd en ed : Addr} {h1 h2 : Int} {t1 t2 u0 u te1 te2 : Tok} {dis de : Bool} {n n' : Nat} {V : Vl}
    (C : RR w p loose mean mg mb k kp sb sd b bd ba pl pp pd en ed h1 h2 t1 t2 u0 u te1 te2 dis de n V) (h : n ≤ n') : RR w p loose mean mg mb k kp sb sd b bd ba pl pp pd en ed h1 h2 t1 t2 u0 u te1 te2 dis de n' V :=
  fun bs q t ps vs m R' S => (C bs q t ps vs m R' S).up h
theorem rr_all (hA : Apart sb sd b bd ba pl pp pd en ed) : ∀ (d : Nat) (V : Vl), Wf d V → RR w p loose mean mg mb k kp sb sd b bd ba pl pp pd en ed h1 h2 t1 t2 u0 u te1 te2 dis de (20 + 2 * d) V := by
  intro d V h
  induction h with
  | list hl _ ih => exact rr_list w p loose mean mg mb k kp sb sd b bd ba pl pp pd en ed h1 h2 t1 t2 u0 u te1 te2 dis de hA _ (Nat.le_add_right _ _) _ hl ih
  | null => exact (rr_null w p loose mean mg mb k kp sb sd b bd ba pl pp pd en ed h1 h2 t1 t2 u0 u te1 te2 dis de hA).up (Nat.le_add_right _ _)
  | non => exact (rr_non w p loose mean mg mb k kp sb sd b bd ba pl pp pd en ed h1 h2 t1 t2 u0 u te1 te2 dis de hA).up (Nat.le_add_right _ _)
  | num a b' => exact (rr_num w p loose mean mg mb k kp sb sd b bd ba pl pp pd en ed h1 h2 t1 t2 u0 u te1 te2 dis de hA _ a b').up (Nat.le_add_right _ _)
  | line => exact (rr_line w p loose mean mg mb k kp sb sd b bd ba pl pp pd en ed h1 h2 t1 t2 u0 u te1 te2 dis de hA _).up (Nat.le_add_right _ _)
  | err => exact (rr_err w p loose mean mg mb k kp sb sd b bd ba pl pp pd en ed h1 h2 t1 t2 u0 u te1 te2 dis de hA _).up (Nat.le_add_right _ _)
  | oct => exact (rr_oct w p loose mean mg mb k kp sb sd b bd ba pl pp pd en ed h1 h2 t1 t2 u0 u te1 te2 dis de hA _).up (Nat.le_add_right _ _)
end
end Mine
end EzRr5
section EzLw2
open PySem PySem.W PyProof.Rows PySem.Calls
namespace Mine
set_option maxRecDepth 100000
set_option maxHeartbeats 1000000
local macro_rules | `(tactic| k_in) => `(tactic| first | k_in_fast | exact Frag.In.keeps (by k_asm) (Fr.keep (by k_asm)))
local macro_rules | `(tactic| k_room) => `(tactic| ktr_room)
local macro_rules | `(tactic| k_units) => `(tactic| ktr_units)
section
variable {w : World} {p : Program} {loose : List Str} {mean : ExcName → Option Value} {mg mb : Str → Option Value} {dp un : Nat} {gd : Option (List Code)} {outer : List Env} {base g : Heap} {A₀ : Around} {s : Shared} {cn : Str} {cs : Scope} {L a : Addr} {ccd : Value} {cl : List (Str × Addr)} {m : Str → Option Value}
local macro_rules | `(tactic| k_fill) => `(tactic| (k_with_none; (k_with "eval Name" => (k_here; k_dflt (first | (refine' nameX_K ?F ?X ?T ?e ?_ ?a ?b ?c; (case F => k_asm); (case X => k_asm); (case T => k_asm); (case e => k_is); (case a => kernel_rfl); (case b => kernel_rfl); (case c => kernel_rfl); k_whole) | (refine' nameX_C ?N ?h ?m ?d ?_ ?a ?b ?c; (case h => rfl); (case N => k_asm); (case m => k_mem); (case d => k_asm); (case a => kernel_rfl); (case b => kernel_rfl); (case c => kernel_rfl); k_whole) | (refine' nameX_L ?F ?v ?_ ?a ?b ?c; (case F => k_asm); (case v => rfl); (case a => kernel_rfl); (case b => kernel_rfl); (case c => kernel_rfl); k_whole) | (refine' nameX_B ?F ?X ?T ?e ?v ?n ?_ ?a ?b ?c; (case F => k_asm); (case X => k_asm); (case T => k_asm); (case e => k_is); (case v => boot_fast); (case n => decide); (case a => kernel_rfl); (case b => kernel_rfl); (case c => kernel_rfl); k_whole)))); (k_with "ite" => (k_closed; first | (refine ite_pos ?h ?_; (case h => k_dflt (decide +kernel))) | (refine ite_neg ?h ?_; (case h => k_dflt (decide +kernel))))); (k_with "eval Call" => (k_here; (with_reducible show wpAny _ _ (eval (Expr.Call (Expr.Name _ _) _ [] _) _) _ _ _); k_dflt (refine Call_ ?_))); (k_with "getMethod bytes" => (k_here; (with_reducible refine by_ends_method ?_))); (k_with "call builtin:bytes.endswith" => (k_here; refine by_ends ?_)); (k_with "binaryOp Add bytes bytes" => (k_here; (with_reducible show wpAny _ _ (binaryOp Operator.Add (Value.bytes _ _) (Value.bytes _ _)) _ _ _); (refine by_add (by first | omega | (simp only [List.length_append]; omega)) ?_); intro _ _)); (k_with "inplaceOp Add bytes bytes" => (k_here; (refine by_iadd (by first | omega | (simp only [List.length_append]; omega)) ?_); intro _ _)); (k_with "subscriptTail" => (k_here; (with_reducible show wpAny _ _ (subscriptTail _ _ (Value.bytes _ _) (Value.ref _)) _ _ _); k_dflt (refine' by_slice (s := ⟨_, _, _, _, _⟩) ?k1 ?k2 ?k3 ?k4 ?k5 ?_ ?k6 ?k7; (case k1 => k_asm); (case k2 => k_asm); (case k3 => constructor); (case k4 => constructor); (case k5 => first | omega | (simp only [List.length_append, List.length_cons, List.length_nil]; omega)); (case k6 => with_unfolding_all rfl); (case k7 => intro _; with_unfolding_all rfl); k_whole); intro h' t' tk' F' N'; (try k_sweep))); (k_with "call builtin:len" => (k_here; (with_reducible show wpAny _ _ (call (Value.builtin "len") [Value.bytes (List.toArray _) _]) _ _ _); (refine by_len (by first | omega | (simp only [List.length_append]; omega)) ?_); intro _ _)); (k_with "binaryOp Add bytes bytes" => (k_here; (with_reducible show wpAny _ _ (binaryOp Operator.Add (Value.bytes _ _) (Value.bytes _ _)) _ _ _); (refine by_add ?hz ?_; (case hz => (simp only [List.length_append, List.length_cons, List.length_nil]; omega))); intro _ _)); (k_with "getMethod str" => (k_here; (with_reducible refine enc_method ?_))); (k_with "subscriptTail Name Constant ref int" => (k_here; (with_reducible show wpAny _ _ (subscriptTail _ _ (Value.ref _) (Value.int 0 _)) _ _ _); k_dflt (refine' item_base0 ?F ?e ?hs ?_; (case F => k_asm); (case e => assumption); (case hs => with_unfolding_all rfl); k_whole))); (k_with "subscriptTail Name Constant ref int" => (k_here; (with_reducible show wpAny _ _ (subscriptTail _ _ (Value.ref _) (Value.int 1 _)) _ _ _); k_dflt (refine' item_base1 ?F ?e ?hs ?_; (case F => k_asm); (case e => assumption); (case hs => with_unfolding_all rfl); k_whole))); (k_with "call builtin:len" => (k_here; (with_reducible show wpAny _ _ (call (Value.builtin "len") [Value.ref _]) _ _ _); k_dflt (refine' len_base ?F ?e ?hl ?_; (case F => k_asm); (case e => assumption); (case hl => omega); k_whole); intro _ _)); (k_with "call builtin:str.encode" => (k_here; first | (with_reducible refine enc_hyp (by assumption) ?_) ; intro _ _))))
theorem c_lw {Q : Value → Shared → Prop} {nn : Nat} {V : Vl} {v : Value} {news : List (Addr × Obj)} {P : Addr → Obj → Prop} (C : LW w p loose mean mg mb nn V) (B : Below A₀ base outer g) (F : Fr g L s.heap m) (X : (Mine.frag.heap_1 w.params).In g) (T : Top p loose mean mg mb g)
    (N : News g L s.heap news) (hP : ∀ a o, P a o → g.get? a = some o ∨ (a, o) ∈ news) (hl : Lay P V v) (hk : cs.kind = .function) (hd : dp + nn < recursionLimit) (hu : un + 8 * nn < cLine)
    (h : ∀ h' t' tz, Fr g L h' m → News g L h' news → Q (.bytes (List.toArray V.wr) tz) { s with heap := h', toks := t' }) :
    wpC (model PySem.Challenge.rw_ez0337_01.row.prog w) (Ar dp un gd (envX cn cs L a ccd cl :: outer)) (call (.ref 1139) [v] []) Q s := by
  refine useC (C v) B F X N T hk (keepL := news) (fun _ q => nomatch q) (fun q hq => ⟨hq, fun hm => nomatch hm⟩) (fun g' st hn => Lay.mono (fun a o hp => (hP a o hp).elim (fun e => st _ _ e) (fun e => hn _ e)) hl) hd hu ?_
  intro v₄ h₄ t₄ g₄ F₄ N₄ st₄ kp₄ st₄' post₄ bld
  obtain ⟨tz, rfl⟩ := post₄
  exact h h₄ t₄ tz F₄ N₄
end
local macro_rules | `(tactic| k_fill) => `(tactic| (k_with_none; (k_with "eval Name" => (k_here; k_dflt (first | (refine' nameX_K ?F ?X ?T ?e ?_ ?a ?b ?c; (case F => k_asm); (case X => k_asm); (case T => k_asm); (case e => k_is); (case a => kernel_rfl); (case b => kernel_rfl); (case c => kernel_rfl); k_whole) | (refine' nameX_C ?N ?h ?m ?d ?_ ?a ?b ?c; (case h => rfl); (case N => k_asm); (case m => k_mem); (case d => k_asm); (case a => kernel_rfl); (case b => kernel_rfl); (case c => kernel_rfl); k_whole) | (refine' nameX_L ?F ?v ?_ ?a ?b ?c; (case F => k_asm); (case v => rfl); (case a => kernel_rfl); (case b => kernel_rfl); (case c => kernel_rfl); k_whole) | (refine' nameX_B ?F ?X ?T ?e ?v ?n ?_ ?a ?b ?c; (case F => k_asm); (case X => k_asm); (case T => k_asm); (case e => k_is); (case v => boot_fast); (case n => decide); (case a => kernel_rfl); (case b => kernel_rfl); (case c => kernel_rfl); k_whole)))); (k_with "ite" => (k_closed; first | (refine ite_pos ?h ?_; (case h => k_dflt (decide +kernel))) | (refine ite_neg ?h ?_; (case h => k_dflt (decide +kernel))))); (k_with "eval Call" => (k_here; (with_reducible show wpAny _ _ (eval (Expr.Call (Expr.Name _ _) _ [] _) _) _ _ _); k_dflt (refine Call_ ?_))); (k_with "getMethod bytes" => (k_here; (with_reducible refine by_ends_method ?_))); (k_with "call builtin:bytes.endswith" => (k_here; refine by_ends ?_)); (k_with "binaryOp Add bytes bytes" => (k_here; (with_reducible show wpAny _ _ (binaryOp Operator.Add (Value.bytes _ _) (Value.bytes _ _)) _ _ _); (refine by_add (by first | omega | (simp only [List.length_append]; omega)) ?_); intro _ _)); (k_with "inplaceOp Add bytes bytes" => (k_here; (refine by_iadd (by first | omega | (simp only [List.length_append]; omega)) ?_); intro _ _)); (k_with "subscriptTail" => (k_here; (with_reducible show wpAny _ _ (subscriptTail _ _ (Value.bytes _ _) (Value.ref _)) _ _ _); k_dflt (refine' by_slice (s := ⟨_, _, _, _, _⟩) ?k1 ?k2 ?k3 ?k4 ?k5 ?_ ?k6 ?k7; (case k1 => k_asm); (case k2 => k_asm); (case k3 => constructor); (case k4 => constructor); (case k5 => first | omega | (simp only [List.length_append, List.length_cons, List.length_nil]; omega)); (case k6 => with_unfolding_all rfl); (case k7 => intro _; with_unfolding_all rfl); k_whole); intro h' t' tk' F' N'; (try k_sweep))); (k_with "call builtin:len" => (k_here; (with_reducible show wpAny _ _ (call (Value.builtin "len") [Value.bytes (List.toArray _) _]) _ _ _); (refine by_len (by first | omega | (simp only [List.length_append]; omega)) ?_); intro _ _)); (k_with "binaryOp Add bytes bytes" => (k_here; (with_reducible show wpAny _ _ (binaryOp Operator.Add (Value.bytes _ _) (Value.bytes _ _)) _ _ _); (refine by_add ?hz ?_; (case hz => (simp only [List.length_append, List.length_cons, List.length_nil]; omega))); intro _ _)); (k_with "getMethod str" => (k_here; (with_reducible refine enc_method ?_))); (k_with "subscriptTail Name Constant ref int" => (k_here; (with_reducible show wpAny _ _ (subscriptTail _ _ (Value.ref _) (Value.int 0 _)) _ _ _); k_dflt (refine' item_base0 ?F ?e ?hs ?_; (case F => k_asm); (case e => assumption); (case hs => with_unfolding_all rfl); k_whole))); (k_with "subscriptTail Name Constant ref int" => (k_here; (with_reducible show wpAny _ _ (subscriptTail _ _ (Value.ref _) (Value.int 1 _)) _ _ _); k_dflt (refine' item_base1 ?F ?e ?hs ?_; (case F => k_asm); (case e => assumption); (case hs => with_unfolding_all rfl); k_whole))); (k_with "call builtin:len" => (k_here; (with_reducible show wpAny _ _ (call (Value.builtin "len") [Value.ref _]) _ _ _); k_dflt (refine' len_base ?F ?e ?hl ?_; (case F => k_asm); (case e => assumption); (case hl => omega); k_whole); intro _ _)); (k_with "call builtin:str.encode" => (k_here; first | (with_reducible refine enc_hyp (by assumption) ?_) ; intro _ _))))
theorem lw_list (w : World) (p : Program) (loose : List Str) (mean : ExcName → Option Value) (mg mb : Str → Option Value) (nn : Nat) (hnn : 4 ≤ nn) (e : Nat) (he : e ≤ 2) (xs : List Vl) (hlen : xs.length < 4) (hWf : Wf e (.list xs)) (ih : ∀ x ∈ xs, LW w p loose mean mg mb nn x) : LW w p loose mean mg mb (nn + 2) (.list xs) := by
  intro v
  k_fill
  intro dp un gd outer base g A₀ s R B st X T hW hsz hPre hd hu kont
  unfold Lay at hPre
  obtain ⟨a, n, t, r, vs, k5, rfl, e1, e2, hLs⟩ := hPre
  refine' enterC (binds := [("value", .ref a)]) st X T hW hsz ?ho ?hcd ?hroom ?hbind ?hloc ?_ ?c2 ?c3 ?c4 ?c5
  case ho => k_is
  case hcd => k_is
  case hroom => omega
  case hbind => exact BindsTo.of_eq rfl
  case hloc => exact locs rfl
  case c2 => rfl
  case c3 => rfl
  case c4 => rfl
  case c5 => decide
  intro L' h₁ F N hlt
  replace F : Fr g L' h₁ (fun y => List.lookup y [("value", .ref a)]) := F
  have hvl := Lays.len hLs
  have hnl := nb_len (n := ((xs.length : Nat) : Int)) (by omega) (by omega)
  have hE := enc_num (z := ((xs.length : Nat) : Int)) (by omega) (by omega)
  have hnl0 := hnl
  rw [← hvl] at hE hnl
  have hWl : (Vl.list xs).wr.length ≤ 640 := Nat.le_trans (wr_len e _ hWf) (by
    have : e = 0 ∨ e = 1 ∨ e = 2 := by omega
    rcases this with rfl | rfl | rfl <;> decide)
  have hWt : ∀ i V, xs[i]? = some V → (wrs (xs.take i)).length + V.wr.length ≤ 640 := fun i V h => by
    have h1 := wrs_take h
    have h2 : wrs xs = wrs (xs.take (i + 1)) ++ wrs (xs.drop (i + 1)) := by rw [← wrs_append, List.take_append_drop]
    rw [h1] at h2
    have h3 := congrArg List.length h2
    simp only [List.length_append] at h3
    simp only [Vl.wr, List.length_append, List.length_cons] at hWl
    omega
  refine C_cons (C_If ?_)
  k_steps
  all_goals (try dsimp only)
  refine C_consK ?_
  k_steps
  all_goals (try dsimp only)
  rename Fr g L' _ _ => kF
  rename News g L' _ _ => kN
  obtain ⟨tt, bb, hbb, kF2⟩ : ∃ tt bb, bb = 42 :: (nb ((xs.length : Nat) : Int) ++ [13, 10]) ∧ Fr g L' _ (fun y => if y = "out" then some (.bytes (List.toArray bb) tt) else List.lookup y [("value", .ref a)]) := ⟨_, _, by rw [← hvl]; simp, kF⟩
  clear kF
  refine C_cons (C_For_list (h₀ := g) (L := L') r vs.toArray (fun i m news => ∃ (tt : Tok) (bb : List UInt8) (ov : Option Value), m = (fun (y : PySem.Str) => if y = "one" then ov else if y = "out" then some (.bytes (List.toArray bb) tt) else List.lookup y [("value", .ref a)]) ∧ news = ([] : List (Addr × Obj)) ∧ bb = 42 :: (nb ((xs.length : Nat) : Int) ++ 13 :: 10 :: wrs (xs.take i))) rfl rfl rfl rfl ?h ?hJS)
  case hJS => exact fun _ _ _ _ => .inl ⟨_, e2, rfl, _, rfl⟩
  case h =>
    iterate 4 (first | walk1 | (dsimp only; walk1))
    (try dsimp only)
    refine ⟨_, _, rfl, kF2, kN, ?J0, ?turn, ?fin⟩
    case J0 =>
      refine ⟨tt, bb, none, ?_, rfl, by rw [hbb]; simp [wrs]⟩
      funext y
      by_cases e0 : y = "one"
      · subst e0; with_unfolding_all rfl
      by_cases e1 : y = "out"
      · subst e1; with_unfolding_all rfl
      simp only [e0, e1, if_false]
    case turn =>
      rintro i m news v I oI h tk hi hP ⟨tt, bb, ov, rfl, rfl, hbe⟩ F N off
      have hP' : vs[i]? = some v := by simpa using hP
      obtain ⟨V, hV, hLV⟩ := Lays.get hLs hP'
      have hW := hWt i V hV
      have hbl : bb.length + V.wr.length ≤ 1000 := by
        rw [hbe]; simp only [List.length_cons, List.length_append]; omega
      refine C_cons (C_Assign_Name (C_BinOp ?_))
      k_steps
      refine C_Call_Name ?_
      k_steps
      refine C_callK (K := Mine.frag.heap_1 w.params) ?kK ?_
      case kK => k_is
      k_steps
      rename Fr g L' _ _ => kF
      rename News g L' _ _ => kN
      (try dsimp only [List.cons_append, List.nil_append])
      refine' c_lw (ih V (List.mem_of_getElem? hV)) B kF X T kN (fun _ _ e => .inl e) hLV rfl ?hd ?hu ?_
      case hd => show dp + 1 + nn < recursionLimit; omega
      case hu => show un + 3 + 8 * nn < cLine; omega
      intro h₇ t₇ tz F₇ N₇
      clear kF kN
      (try dsimp only)
      k_steps
      all_goals (try dsimp only)
      refine C_nil ?_
      (try dsimp only)
      rename Fr g L' _ _ => kF
      rename News g L' _ _ => kN
      obtain ⟨tb, kF3⟩ : ∃ tb, Fr g L' _ (fun y => if y = "out" then some (.bytes (List.toArray (bb ++ V.wr)) tb) else if y = "one" then some v else if y = "one" then ov else if y = "out" then some (.bytes (List.toArray bb) tt) else List.lookup y [("value", .ref a)]) := ⟨_, kF⟩
      refine ⟨_, _, _, [], rfl, kF3, kN, off1_of (fun p hp => nomatch hp), tb, bb ++ V.wr, some v, ?_, rfl, ?_⟩
      rotate_left
      · rw [hbe, wrs_take hV]; simp
      · funext y
        by_cases e0 : y = "one"
        · subst e0; with_unfolding_all rfl
        by_cases e1 : y = "out"
        · subst e1; with_unfolding_all rfl
        simp only [e0, e1, if_false]
    case fin =>
      rintro m h tk news ⟨tt, bb, ov, rfl, rfl, hbe⟩ F N
      refine C_consK ?_
      k_steps
      all_goals (try dsimp only)
      refine kont _ _ _ (Fr.keep (by assumption)) (lwE ?_)
      rw [hbe]
      have : xs.take vs.toArray.size = xs := List.take_of_length_le (by simp; omega)
      rw [this]
      simp [Vl.wr]
theorem LW.up {w : World} {p : Program} {loose : List Str} {mean : ExcName → Option Value} {mg mb : Str → Option Value} {n n' : Nat} {V : Vl} (C : LW w p loose mean mg mb n V) (h : n ≤ n') : LW w p loose mean mg mb n' V := fun v => (C v).up h
theorem lw_all (w : World) (p : Program) (loose : List Str) (mean : ExcName → Option Value) (mg mb : Str → Option Value) : ∀ (d : Nat) (V : Vl), Wf d V → d ≤ 2 → LW w p loose mean mg mb (4 + 2 * d) V := by
  intro d V h
  induction h with
  | @list d xs hl hx ih => exact fun hd => lw_list w p loose mean mg mb _ (Nat.le_add_right _ _) (d + 1) hd xs hl (.list hl hx) fun x hm => ih x hm (by omega)
  | null => exact fun _ => (lw_null w p loose mean mg mb).up (Nat.le_add_right _ _)
  | non => exact fun _ => (lw_non w p loose mean mg mb).up (Nat.le_add_right _ _)
  | num a b => exact fun _ => (lw_num w p loose mean mg mb _ a b).up (Nat.le_add_right _ _)
  | line => exact fun _ => (lw_line w p loose mean mg mb _).up (Nat.le_add_right _ _)
  | err => exact fun _ => (lw_err w p loose mean mg mb _).up (Nat.le_add_right _ _)
  | oct => exact fun _ => (lw_oct w p loose mean mg mb _).up (Nat.le_add_right _ _)
end Mine
end EzLw2
section EzExc8
open PySem PySem.W PyProof.Rows PySem.Calls Builtin Builtin.BaseException Builtin.Str
set_option maxRecDepth 100000
set_option maxHeartbeats 1000000
namespace Mine
theorem bstr_kind : builtinKind "BaseException.__str__" = some .slot := by decide +kernel
theorem bstr_split : splitId "BaseException.__str__" = some ("BaseException", "__str__") := by decide +kernel
section
variable {prog : Program} {w : World} {A : Around} {E : Value → Shared → Prop} {s : Shared} {K : Frag} {x D t0 : Addr} {od : Option Obj} {dx : Option Addr}
theorem own_args {M : Model} {items : List Value} {Q : Value × List Value → Shared → Prop} (ho : s.heap.get? x = some (excOb D t0 dx)) (ht : s.heap.TupAt t0 items) (hq : Q (.ref t0, items) s) :
    wpAny M A (bexcArgs (.ref x)) Q E s := by
  obtain ⟨ot, k, hto, _, htd⟩ := ht
  unfold bexcArgs
  refine wpAny_bind (wpAny_field ho rfl rfl (wpAny_bind (wpAny_seqItems hto htd ?_)))
  have : items.toArray.toList = items := by simp
  show wpAny M A (pure (Value.ref t0, items.toArray.toList)) Q E s
  rw [this]; exact wpAny_pure hq
theorem own_str {m : PySem.Str} {tk : Tok} {Q : Fin → Shared → Prop} (ho : s.heap.get? x = some (excOb D t0 dx)) (ht : s.heap.TupAt t0 [.str m tk]) (hq : Q (.done (.ret (.str m tk))) s) :
    wpAny (model prog w) A (Builtin.«BaseException.__str__» ⟨[.ref x], []⟩) Q E s := by
  unfold Builtin.«BaseException.__str__»
  repeat (first | with_reducible refine own_args ho ht ?_ | wp_step)
  exact hq
theorem exc_ty {M : Model} {h : Heap} (ho : h.get? x = some (excOb D t0 dx)) : Looks M h (typeOf (.ref x)) (.ref D) := (Looks.ld ho).andThen .now
theorem own_special {M : Model} {name : PySem.Str} {id : String} {args : List Value} {Q : Option Value → Shared → Prop} (X : K.In s.heap) (I : s.heap.get? x = some (excOb D t0 dx)) (hs : findIn K (.ref D) name = some (some (.builtin id)))
    (hbd : bindSpecial (.builtin id) (.ref x) = pure (.builtin id, [.ref x])) (h : wpAny M A (call (.builtin id) (.ref x :: args)) (fun v => Q (some v)) E s) : wpAny M A (callSpecial? (.ref x) name args) Q E s :=
  wpAny_bind (wpAny_bind ((exc_ty I).here ((looks_findIn X hs).here (wpAny_holding (wpAny_bind (wpAny_of_eq hbd (wpAny_bind (wpAny_mono h (fun _ _ z => wpAny_pure z) fun _ _ z => z))))))))
theorem own_strOf {m : PySem.Str} {tk : Tok} {Q : Value → Shared → Prop} (hu : A.units < cLine) (X : K.In s.heap) (I : s.heap.get? x = some (excOb D t0 dx)) (hs : findIn K (.ref D) "__str__" = some (some (.builtin "BaseException.__str__"))) (hb : mroIn K D (.type "BaseException") = some true)
    (ht : s.heap.get? t0 = some (tupOb [.str m tk])) (hq : Q (.str m tk) s) : wpAny (model prog w) A (PySem.Builtin.Str.strOf (.ref x)) Q E s := by
  have L4 : Looks (model prog w) s.heap (isInstance (.ref x) (.type "BaseException")) true := (exc_ty (M := model prog w) I).andThen (looks_mroIn X hb)
  have FS := PySem.F.excStr_Exception.str
  unfold PySem.Builtin.Str.strOf
  rw [show isExactStr (.ref x) = false from rfl]
  refine wpAny_bind (m := cRoomFor _ _) (wpAny_cRoomFor hu ?_)
  refine wpAny_bind (m := callSpecial? (.ref x) (PySem.Str.ofString "__str__")) (own_special X I hs (FS.bind _) ?_)
  refine wpAny_mono (Q := fun v s' => v = .str m tk ∧ s' = s) (E := fun _ _ => False) ?_ (fun v s' hv => ?_) fun _ _ z => z.elim
  · refine wpAny_call (codeAny_call_builtin FS.plain PySem.F.entry_bexc_str (@check_slot (model prog w) _ _ _ "BaseException.__str__" "BaseException" "__str__" (.ref x) [] [] _ bstr_kind bstr_split L4 (PySem.F.args_bexc_str _) ?_))
    exact own_str I ⟨_, _, ht, rfl, rfl⟩ ⟨rfl, rfl⟩
  · obtain ⟨rfl, rfl⟩ := hv
    exact wpAny_pure hq
theorem exc_str {m : PySem.Str} {tk : Tok} {Q : Value → Shared → Prop} (X : K.In s.heap) (I : s.heap.get? x = some (excOb D t0 dx)) (hs : findIn K (.ref D) "__str__" = some (some (.builtin "BaseException.__str__"))) (hb : mroIn K D (.type "BaseException") = some true)
    (ht : s.heap.get? t0 = some (tupOb [.str m tk])) (hu : A.in1.in1.units < cLine) (h : Q (.str m tk) s) : wpAny (model prog w) A (call (.type "str") [.ref x]) Q E s := by
  refine callType_codes (T := "str") (Bi := Builtin.«object.__init__») (Q₁ := fun r s₁ => ∃ y u, r = .str y u ∧ Q r s₁) PySem.F.called_str (PySem.F.typeCall_str_1 _) PySem.F.entry_object_init ?_ ?_
  · refine codeAny_of_tree ?_
    show wpAny _ A.in1.in1 (do checkBuiltinCall "str.__new__" ⟨[.type "str", .ref x], []⟩; again (.builtin "str.__new__" ⟨[.type "str", .ref x], []⟩)) _ _ s
    refine wpAny_bind (wpAny_of_eq (PySem.F.newCall_str_1 _) (wpAny_pure ⟨plainId_quiet (by decide +kernel) _, codeAny_builtin PySem.F.entry_str_new ?_⟩))
    rw [Around.under_plainId (by decide +kernel) _]
    rw [str_new_tree]
    refine wpAny_bind (wpAny_pure ?_)
    refine wpAny_bind (wpAny_of_eq isSubtype_str_str ?_)
    exact wpAny_bind (own_strOf hu X I hs hb ht (wpAny_pure ⟨_, _, rfl, h⟩))
  · rintro obj s₁ ⟨y, u, rfl, hq⟩
    exact ⟨typeIs_str _ _ _, PySem.F.args_object_init_2 _ _, object_init_meets PySem.F.called_str.init.lookup PySem.F.called_str.made (by decide) prog w A.in1 _ s₁ ⟨typeIs_str _ _ _, rfl, hq⟩⟩
theorem exc_isy {Q : Value → Shared → Prop} (X : K.In s.heap) (I : s.heap.get? x = some (excOb D t0 dx)) (h : Q (.bool true) s) : wpAny (model prog w) A (call (.builtin "isinstance") [.ref x, .ref D]) Q E s := by
  refine call_isinstance (S := fun _ R s => (K.In s.heap ∧ s.heap.get? x = some (excOb D t0 dx)) ∧ R (.ok (.ret (.bool true))) s) (fun prog2 w2 _ _ _ hs => isinstance_outer ?_ (by intro q; cases q)) ⟨⟨X, I⟩, h⟩
  have L0 := exc_ty (M := model prog2 w2) hs.1.2
  unfold Builtin.«isinstance.nested»
  refine wpAny_bind (L0.here ?_)
  rw [if_pos (by simp)]
  exact wpAny_bind (wpAny_rule (wpAny_pure hs.2))
theorem isy_type {a : Addr} {T : String} {Q : Value → Shared → Prop} (hT : s.TypeIs (.ref a) T) (h : Q (.bool true) s) : wpAny (model prog w) A (call (.builtin "isinstance") [.ref a, .type T]) Q E s := by
  refine call_isinstance (S := fun _ R s => s.TypeIs (.ref a) T ∧ R (.ok (.ret (.bool true))) s) (fun prog2 w2 _ _ _ hs => isinstance_outer ?_ (by intro q; cases q)) ⟨hT, h⟩
  unfold Builtin.«isinstance.nested»
  refine wpAny_bind (wpAny_typeOf hs.1 ?_)
  rw [if_pos (by simp)]
  exact wpAny_bind (wpAny_rule (wpAny_pure hs.2))
end
end Mine
end EzExc8
section EzLs1
open PySem PySem.W PyProof.Rows PySem.Calls
namespace Mine
set_option maxRecDepth 100000
set_option maxHeartbeats 1000000
local macro_rules | `(tactic| k_in) => `(tactic| first | k_in_fast | exact Frag.In.keeps (by k_asm) (Fr.keep (by k_asm)))
local macro_rules | `(tactic| k_room) => `(tactic| ktr_room)
local macro_rules | `(tactic| k_units) => `(tactic| ktr_units)
local macro_rules | `(tactic| k_fill) => `(tactic| (k_with_none; (k_with "eval Name" => (k_here; k_dflt (first | (refine' nameX_K ?F ?X ?T ?e ?_ ?a ?b ?c; (case F => k_asm); (case X => k_asm); (case T => k_asm); (case e => k_is); (case a => kernel_rfl); (case b => kernel_rfl); (case c => kernel_rfl); k_whole) | (refine' nameX_C ?N ?h ?m ?d ?_ ?a ?b ?c; (case h => rfl); (case N => k_asm); (case m => k_mem); (case d => k_asm); (case a => kernel_rfl); (case b => kernel_rfl); (case c => kernel_rfl); k_whole) | (refine' nameX_L ?F ?v ?_ ?a ?b ?c; (case F => k_asm); (case v => rfl); (case a => kernel_rfl); (case b => kernel_rfl); (case c => kernel_rfl); k_whole) | (refine' nameX_B ?F ?X ?T ?e ?v ?n ?_ ?a ?b ?c; (case F => k_asm); (case X => k_asm); (case T => k_asm); (case e => k_is); (case v => boot_fast); (case n => decide); (case a => kernel_rfl); (case b => kernel_rfl); (case c => kernel_rfl); k_whole)))); (k_with "ite" => (k_closed; first | (refine ite_pos ?h ?_; (case h => k_dflt (decide +kernel))) | (refine ite_neg ?h ?_; (case h => k_dflt (decide +kernel))))); (k_with "eval Call" => (k_here; (with_reducible show wpAny _ _ (eval (Expr.Call (Expr.Name _ _) _ [] _) _) _ _ _); k_dflt (refine Call_ ?_))); (k_with "getMethod bytes" => (k_here; (with_reducible refine by_ends_method ?_))); (k_with "call builtin:bytes.endswith" => (k_here; refine by_ends ?_)); (k_with "binaryOp Add bytes bytes" => (k_here; (with_reducible show wpAny _ _ (binaryOp Operator.Add (Value.bytes _ _) (Value.bytes _ _)) _ _ _); (refine by_add (by first | omega | (simp only [List.length_append]; omega)) ?_); intro _ _)); (k_with "inplaceOp Add bytes bytes" => (k_here; (refine by_iadd (by first | omega | (simp only [List.length_append]; omega)) ?_); intro _ _)); (k_with "subscriptTail" => (k_here; (with_reducible show wpAny _ _ (subscriptTail _ _ (Value.bytes _ _) (Value.ref _)) _ _ _); k_dflt (refine' by_slice (s := ⟨_, _, _, _, _⟩) ?k1 ?k2 ?k3 ?k4 ?k5 ?_ ?k6 ?k7; (case k1 => k_asm); (case k2 => k_asm); (case k3 => constructor); (case k4 => constructor); (case k5 => first | omega | (simp only [List.length_append, List.length_cons, List.length_nil]; omega)); (case k6 => with_unfolding_all rfl); (case k7 => intro _; with_unfolding_all rfl); k_whole); intro h' t' tk' F' N'; (try k_sweep))); (k_with "call builtin:len" => (k_here; (with_reducible show wpAny _ _ (call (Value.builtin "len") [Value.bytes (List.toArray _) _]) _ _ _); (refine by_len (by first | omega | (simp only [List.length_append]; omega)) ?_); intro _ _))))
theorem enc_hyp2 {prog : Program} {w : World} {A : Around} {E : Value → Shared → Prop} {Q : Value → Shared → Prop} {s : Shared} {t u : Tok} {x : PySem.Str} {B : List UInt8} (e : Enc x B) (h : ∀ t' k, Q (.bytes B.toArray t') { s with toks := k }) :
  wpAny (model prog w) A (call (.builtin "str.encode") [.str x t, .str (PySem.Str.ofString "utf-8") u]) Q E s := e _ _ _ _ _ _ _ _ h
theorem by_eqT {prog : Program} {w : World} {A : Around} {E : Value → Shared → Prop} {Q : Value → Shared → Prop} {s : Shared} {t u : Tok} {b : List UInt8} (h : Q (.bool true) s) : wpAny (model prog w) A (compareOp .Eq (.bytes b.toArray t) (.bytes b.toArray u)) Q E s := by
  refine by_eq ?_
  rw [beq_self_eq_true]; exact h
def LS (w : World) (p : Program) (loose : List Str) (mean : ExcName → Option Value) (mg mb : Str → Option Value) (nn : Nat) (dec : Bool) (V : Vl) : Prop :=
  ∀ got v : Value, DoesC (Mine.frag.heap_1 w.params) PySem.Challenge.rw_ez0337_01.row.prog w p loose mean mg mb nn 1146 [got, v, .bool dec] [] [] (fun g => Got (fun a o => g.get? a = some o) dec V got ∧ Lay (fun a o => g.get? a = some o) V v) (fun _ r _ => r = .bool true)
local macro_rules | `(tactic| k_fill) => `(tactic| (k_with_none; (k_with "eval Name" => (k_here; k_dflt (first | (refine' nameX_K ?F ?X ?T ?e ?_ ?a ?b ?c; (case F => k_asm); (case X => k_asm); (case T => k_asm); (case e => k_is); (case a => kernel_rfl); (case b => kernel_rfl); (case c => kernel_rfl); k_whole) | (refine' nameX_C ?N ?h ?m ?d ?_ ?a ?b ?c; (case h => rfl); (case N => k_asm); (case m => k_mem); (case d => k_asm); (case a => kernel_rfl); (case b => kernel_rfl); (case c => kernel_rfl); k_whole) | (refine' nameX_L ?F ?v ?_ ?a ?b ?c; (case F => k_asm); (case v => rfl); (case a => kernel_rfl); (case b => kernel_rfl); (case c => kernel_rfl); k_whole) | (refine' nameX_B ?F ?X ?T ?e ?v ?n ?_ ?a ?b ?c; (case F => k_asm); (case X => k_asm); (case T => k_asm); (case e => k_is); (case v => boot_fast); (case n => decide); (case a => kernel_rfl); (case b => kernel_rfl); (case c => kernel_rfl); k_whole)))); (k_with "ite" => (k_closed; first | (refine ite_pos ?h ?_; (case h => k_dflt (decide +kernel))) | (refine ite_neg ?h ?_; (case h => k_dflt (decide +kernel))))); (k_with "eval Call" => (k_here; (with_reducible show wpAny _ _ (eval (Expr.Call (Expr.Name _ _) _ [] _) _) _ _ _); k_dflt (refine Call_ ?_))); (k_with "getMethod bytes" => (k_here; (with_reducible refine by_ends_method ?_))); (k_with "call builtin:bytes.endswith" => (k_here; refine by_ends ?_)); (k_with "binaryOp Add bytes bytes" => (k_here; (with_reducible show wpAny _ _ (binaryOp Operator.Add (Value.bytes _ _) (Value.bytes _ _)) _ _ _); (refine by_add (by first | omega | (simp only [List.length_append]; omega)) ?_); intro _ _)); (k_with "inplaceOp Add bytes bytes" => (k_here; (refine by_iadd (by first | omega | (simp only [List.length_append]; omega)) ?_); intro _ _)); (k_with "subscriptTail" => (k_here; (with_reducible show wpAny _ _ (subscriptTail _ _ (Value.bytes _ _) (Value.ref _)) _ _ _); k_dflt (refine' by_slice (s := ⟨_, _, _, _, _⟩) ?k1 ?k2 ?k3 ?k4 ?k5 ?_ ?k6 ?k7; (case k1 => k_asm); (case k2 => k_asm); (case k3 => constructor); (case k4 => constructor); (case k5 => first | omega | (simp only [List.length_append, List.length_cons, List.length_nil]; omega)); (case k6 => with_unfolding_all rfl); (case k7 => intro _; with_unfolding_all rfl); k_whole); intro h' t' tk' F' N'; (try k_sweep))); (k_with "call builtin:len" => (k_here; (with_reducible show wpAny _ _ (call (Value.builtin "len") [Value.bytes (List.toArray _) _]) _ _ _); (refine by_len (by first | omega | (simp only [List.length_append]; omega)) ?_); intro _ _)); (k_with "binaryOp Add bytes bytes" => (k_here; (with_reducible show wpAny _ _ (binaryOp Operator.Add (Value.bytes _ _) (Value.bytes _ _)) _ _ _); (refine by_add ?hz ?_; (case hz => (simp only [List.length_append, List.length_cons, List.length_nil]; omega))); intro _ _)); (k_with "getMethod str" => (k_here; (with_reducible refine enc_method ?_))); (k_with "subscriptTail Name Constant ref int" => (k_here; (with_reducible show wpAny _ _ (subscriptTail _ _ (Value.ref _) (Value.int 0 _)) _ _ _); k_dflt (refine' item_base0 ?F ?e ?hs ?_; (case F => k_asm); (case e => assumption); (case hs => with_unfolding_all rfl); k_whole))); (k_with "subscriptTail Name Constant ref int" => (k_here; (with_reducible show wpAny _ _ (subscriptTail _ _ (Value.ref _) (Value.int 1 _)) _ _ _); k_dflt (refine' item_base1 ?F ?e ?hs ?_; (case F => k_asm); (case e => assumption); (case hs => with_unfolding_all rfl); k_whole))); (k_with "call builtin:len" => (k_here; (with_reducible show wpAny _ _ (call (Value.builtin "len") [Value.ref _]) _ _ _); k_dflt (refine' len_base ?F ?e ?hl ?_; (case F => k_asm); (case e => assumption); (case hl => omega); k_whole); intro _ _)); (k_with "call builtin:str.encode" => (k_here; first | (with_reducible refine enc_hyp2 (by assumption) ?_) ; intro _ _)); (k_with "compareOp Eq bytes bytes" => (k_here; (with_reducible refine by_eqT ?_))); (k_with "call builtin:isinstance" => (k_here; (with_reducible show wpAny _ _ (call (Value.builtin "isinstance") [Value.ref _, Value.ref _]) _ _ _); k_dflt (refine' exc_isy (K := Mine.frag.heap_1 _) (t0 := _) (dx := _) ?X ?I ?_; (case X => k_in); (case I => (refine Fr.keep (by k_asm) _ _ ?_; assumption)); k_whole))); (k_with "call builtin:isinstance" => (k_here; (with_reducible show wpAny _ _ (call (Value.builtin "isinstance") [Value.ref _, Value.type _]) _ _ _); k_dflt (refine' isy_type ?hT ?_; (case hT => exact ⟨_, Fr.keep (by k_asm) _ _ (by assumption), rfl⟩); k_whole))); (k_with "call type:str" => (k_here; (with_reducible show wpAny _ _ (call (Value.type "str") [Value.ref _]) _ _ _); k_dflt (refine' exc_str (K := Mine.frag.heap_1 _) (t0 := _) (dx := _) ?X ?I ?hs ?hb ?ht ?hu ?_; (case X => k_in); (case I => (refine Fr.keep (by k_asm) _ _ ?_; assumption)); (case hs => k_is); (case hb => k_is); (case ht => (refine Fr.keep (by k_asm) _ _ ?_; assumption)); (case hu => k_units); k_whole)))))
theorem ls_null (w : World) (p : Program) (loose : List Str) (mean : ExcName → Option Value) (mg mb : Str → Option Value) (dec : Bool) : LS w p loose mean mg mb 4 dec .null := by
  intro got v
  k_fill
  intro dp un gd outer base g A₀ s R B st X T hW hsz hPre hd hu kont
  obtain ⟨hG, hPre⟩ := hPre
  unfold Lay at hPre
  unfold Got at hG
  obtain ⟨a, n, t, rfl, e1⟩ := hPre
  subst hG
  refine' enterC (binds := [("got", .none), ("value", .ref a), ("texts", .bool dec)]) st X T hW hsz ?ho ?hcd ?hroom ?hbind ?hloc ?_ ?c2 ?c3 ?c4 ?c5
  case ho => k_is
  case hcd => k_is
  case hroom => omega
  case hbind => exact BindsTo.of_eq rfl
  case hloc => exact locs rfl
  case c2 => rfl
  case c3 => rfl
  case c4 => rfl
  case c5 => decide
  intro L' h₁ F N hlt
  replace F : Fr g L' h₁ (fun y => List.lookup y [("texts", .bool dec), ("value", .ref a), ("got", .none)]) := F
  refine C_of ?_
  k_steps
  all_goals (try dsimp only)

  exact kont _ _ _ (Fr.keep (by assumption)) (by simp)
theorem ls_non (w : World) (p : Program) (loose : List Str) (mean : ExcName → Option Value) (mg mb : Str → Option Value) (dec : Bool) : LS w p loose mean mg mb 4 dec .non := by
  intro got v
  k_fill
  intro dp un gd outer base g A₀ s R B st X T hW hsz hPre hd hu kont
  obtain ⟨hG, hPre⟩ := hPre
  unfold Lay at hPre
  unfold Got at hG
  obtain ⟨a, n, t, rfl, e1⟩ := hPre
  subst hG
  refine' enterC (binds := [("got", .none), ("value", .ref a), ("texts", .bool dec)]) st X T hW hsz ?ho ?hcd ?hroom ?hbind ?hloc ?_ ?c2 ?c3 ?c4 ?c5
  case ho => k_is
  case hcd => k_is
  case hroom => omega
  case hbind => exact BindsTo.of_eq rfl
  case hloc => exact locs rfl
  case c2 => rfl
  case c3 => rfl
  case c4 => rfl
  case c5 => decide
  intro L' h₁ F N hlt
  replace F : Fr g L' h₁ (fun y => List.lookup y [("texts", .bool dec), ("value", .ref a), ("got", .none)]) := F
  refine C_of ?_
  k_steps
  all_goals (try dsimp only)

  exact kont _ _ _ (Fr.keep (by assumption)) (by simp)
theorem ls_num (w : World) (p : Program) (loose : List Str) (mean : ExcName → Option Value) (mg mb : Str → Option Value) (dec : Bool) (z : Int) : LS w p loose mean mg mb 4 dec (.num z) := by
  intro got v
  k_fill
  intro dp un gd outer base g A₀ s R B st X T hW hsz hPre hd hu kont
  obtain ⟨hG, hPre⟩ := hPre
  unfold Lay at hPre
  unfold Got at hG
  obtain ⟨a, n, t, tx, rfl, e1⟩ := hPre
  obtain ⟨tz, rfl⟩ := hG
  refine' enterC (binds := [("got", .int z tz), ("value", .ref a), ("texts", .bool dec)]) st X T hW hsz ?ho ?hcd ?hroom ?hbind ?hloc ?_ ?c2 ?c3 ?c4 ?c5
  case ho => k_is
  case hcd => k_is
  case hroom => omega
  case hbind => exact BindsTo.of_eq rfl
  case hloc => exact locs rfl
  case c2 => rfl
  case c3 => rfl
  case c4 => rfl
  case c5 => decide
  intro L' h₁ F N hlt
  replace F : Fr g L' h₁ (fun y => List.lookup y [("texts", .bool dec), ("value", .ref a), ("got", .int z tz)]) := F
  refine C_of ?_
  k_steps
  all_goals (try dsimp only)

  exact kont _ _ _ (Fr.keep (by assumption)) (by simp)
theorem ls_lineT (w : World) (p : Program) (loose : List Str) (mean : ExcName → Option Value) (mg mb : Str → Option Value) (i : Nat) : LS w p loose mean mg mb 4 true (.line i) := by
  intro got v
  k_fill
  intro dp un gd outer base g A₀ s R B st X T hW hsz hPre hd hu kont
  obtain ⟨hG, hPre⟩ := hPre
  unfold Lay at hPre
  unfold Got at hG
  obtain ⟨a, n, t, tx, rfl, e1⟩ := hPre
  rw [if_pos rfl] at hG
  obtain ⟨tg, rfl⟩ := hG
  refine' enterC (binds := [("got", .str (lineT i) tg), ("value", .ref a), ("texts", .bool true)]) st X T hW hsz ?ho ?hcd ?hroom ?hbind ?hloc ?_ ?c2 ?c3 ?c4 ?c5
  case ho => k_is
  case hcd => k_is
  case hroom => omega
  case hbind => exact BindsTo.of_eq rfl
  case hloc => exact locs rfl
  case c2 => rfl
  case c3 => rfl
  case c4 => rfl
  case c5 => decide
  intro L' h₁ F N hlt
  replace F : Fr g L' h₁ (fun y => List.lookup y [("texts", .bool true), ("value", .ref a), ("got", .str (lineT i) tg)]) := F
  refine C_of ?_
  k_steps
  all_goals (try dsimp only)

  exact kont _ _ _ (Fr.keep (by assumption)) (by simp)
theorem ls_lineF (w : World) (p : Program) (loose : List Str) (mean : ExcName → Option Value) (mg mb : Str → Option Value) (i : Nat) : LS w p loose mean mg mb 4 false (.line i) := by
  intro got v
  k_fill
  intro dp un gd outer base g A₀ s R B st X T hW hsz hPre hd hu kont
  obtain ⟨hG, hPre⟩ := hPre
  unfold Lay at hPre
  unfold Got at hG
  obtain ⟨a, n, t, tx, rfl, e1⟩ := hPre
  rw [if_neg (by decide)] at hG
  obtain ⟨tg, rfl⟩ := hG
  refine' enterC (binds := [("got", .bytes (lineB i).toArray tg), ("value", .ref a), ("texts", .bool false)]) st X T hW hsz ?ho ?hcd ?hroom ?hbind ?hloc ?_ ?c2 ?c3 ?c4 ?c5
  case ho => k_is
  case hcd => k_is
  case hroom => omega
  case hbind => exact BindsTo.of_eq rfl
  case hloc => exact locs rfl
  case c2 => rfl
  case c3 => rfl
  case c4 => rfl
  case c5 => decide
  intro L' h₁ F N hlt
  replace F : Fr g L' h₁ (fun y => List.lookup y [("texts", .bool false), ("value", .ref a), ("got", .bytes (lineB i).toArray tg)]) := F
  have hE := enc_line i
  refine C_of ?_
  k_steps
  all_goals (try dsimp only)

  exact kont _ _ _ (Fr.keep (by assumption)) (by simp)
theorem ls_octT (w : World) (p : Program) (loose : List Str) (mean : ExcName → Option Value) (mg mb : Str → Option Value) (i : Nat) : LS w p loose mean mg mb 4 true (.oct i) := by
  intro got v
  k_fill
  intro dp un gd outer base g A₀ s R B st X T hW hsz hPre hd hu kont
  obtain ⟨hG, hPre⟩ := hPre
  unfold Lay at hPre
  unfold Got at hG
  obtain ⟨a, n, t, tx, rfl, e1⟩ := hPre
  rw [if_pos rfl] at hG
  obtain ⟨tg, rfl⟩ := hG
  refine' enterC (binds := [("got", .str (octT i) tg), ("value", .ref a), ("texts", .bool true)]) st X T hW hsz ?ho ?hcd ?hroom ?hbind ?hloc ?_ ?c2 ?c3 ?c4 ?c5
  case ho => k_is
  case hcd => k_is
  case hroom => omega
  case hbind => exact BindsTo.of_eq rfl
  case hloc => exact locs rfl
  case c2 => rfl
  case c3 => rfl
  case c4 => rfl
  case c5 => decide
  intro L' h₁ F N hlt
  replace F : Fr g L' h₁ (fun y => List.lookup y [("texts", .bool true), ("value", .ref a), ("got", .str (octT i) tg)]) := F
  refine C_of ?_
  k_steps
  all_goals (try dsimp only)

  exact kont _ _ _ (Fr.keep (by assumption)) (by simp)
theorem ls_octF (w : World) (p : Program) (loose : List Str) (mean : ExcName → Option Value) (mg mb : Str → Option Value) (i : Nat) : LS w p loose mean mg mb 4 false (.oct i) := by
  intro got v
  k_fill
  intro dp un gd outer base g A₀ s R B st X T hW hsz hPre hd hu kont
  obtain ⟨hG, hPre⟩ := hPre
  unfold Lay at hPre
  unfold Got at hG
  obtain ⟨a, n, t, tx, rfl, e1⟩ := hPre
  rw [if_neg (by decide)] at hG
  obtain ⟨tg, rfl⟩ := hG
  refine' enterC (binds := [("got", .bytes (octB i).toArray tg), ("value", .ref a), ("texts", .bool false)]) st X T hW hsz ?ho ?hcd ?hroom ?hbind ?hloc ?_ ?c2 ?c3 ?c4 ?c5
  case ho => k_is
  case hcd => k_is
  case hroom => omega
  case hbind => exact BindsTo.of_eq rfl
  case hloc => exact locs rfl
  case c2 => rfl
  case c3 => rfl
  case c4 => rfl
  case c5 => decide
  intro L' h₁ F N hlt
  replace F : Fr g L' h₁ (fun y => List.lookup y [("texts", .bool false), ("value", .ref a), ("got", .bytes (octB i).toArray tg)]) := F
  have hE := enc_oct i
  refine C_of ?_
  k_steps
  all_goals (try dsimp only)

  exact kont _ _ _ (Fr.keep (by assumption)) (by simp)
theorem ls_err0 (w : World) (p : Program) (loose : List Str) (mean : ExcName → Option Value) (mg mb : Str → Option Value) (dec : Bool) (i : Nat) (hX : errT i = PySem.Str.ofString "ERR no") (hA : errA i = PySem.Str.ofString "no") : LS w p loose mean mg mb 4 dec (.err i) := by
  intro got v
  k_fill
  intro dp un gd outer base g A₀ s R B st X T hW hsz hPre hd hu kont
  obtain ⟨hG, hPre⟩ := hPre
  unfold Lay at hPre
  unfold Got at hG
  obtain ⟨a, n, t, tx, rfl, e1⟩ := hPre
  obtain ⟨ex, tt, dx, ta, rfl, f1, f2⟩ := hG
  rw [hX] at e1
  rw [hA] at f2
  refine' enterC (binds := [("got", .ref ex), ("value", .ref a), ("texts", .bool dec)]) st X T hW hsz ?ho ?hcd ?hroom ?hbind ?hloc ?_ ?c2 ?c3 ?c4 ?c5
  case ho => k_is
  case hcd => k_is
  case hroom => omega
  case hbind => exact BindsTo.of_eq rfl
  case hloc => exact locs rfl
  case c2 => rfl
  case c3 => rfl
  case c4 => rfl
  case c5 => decide
  intro L' h₁ F N hlt
  replace F : Fr g L' h₁ (fun y => List.lookup y [("texts", .bool dec), ("value", .ref a), ("got", .ref ex)]) := F
  refine C_of ?_
  k_steps
  all_goals (try dsimp only)

  exact kont _ _ _ (Fr.keep (by assumption)) (by simp)
theorem ls_err1 (w : World) (p : Program) (loose : List Str) (mean : ExcName → Option Value) (mg mb : Str → Option Value) (dec : Bool) (i : Nat) (hX : errT i = PySem.Str.ofString "oops") (hA : errA i = PySem.Str.ofString "oops") : LS w p loose mean mg mb 4 dec (.err i) := by
  intro got v
  k_fill
  intro dp un gd outer base g A₀ s R B st X T hW hsz hPre hd hu kont
  obtain ⟨hG, hPre⟩ := hPre
  unfold Lay at hPre
  unfold Got at hG
  obtain ⟨a, n, t, tx, rfl, e1⟩ := hPre
  obtain ⟨ex, tt, dx, ta, rfl, f1, f2⟩ := hG
  rw [hX] at e1
  rw [hA] at f2
  refine' enterC (binds := [("got", .ref ex), ("value", .ref a), ("texts", .bool dec)]) st X T hW hsz ?ho ?hcd ?hroom ?hbind ?hloc ?_ ?c2 ?c3 ?c4 ?c5
  case ho => k_is
  case hcd => k_is
  case hroom => omega
  case hbind => exact BindsTo.of_eq rfl
  case hloc => exact locs rfl
  case c2 => rfl
  case c3 => rfl
  case c4 => rfl
  case c5 => decide
  intro L' h₁ F N hlt
  replace F : Fr g L' h₁ (fun y => List.lookup y [("texts", .bool dec), ("value", .ref a), ("got", .ref ex)]) := F
  refine C_of ?_
  k_steps
  all_goals (try dsimp only)

  exact kont _ _ _ (Fr.keep (by assumption)) (by simp)
theorem ls_err2 (w : World) (p : Program) (loose : List Str) (mean : ExcName → Option Value) (mg mb : Str → Option Value) (dec : Bool) (i : Nat) (hX : errT i = PySem.Str.ofString "WRONGTYPE a b") (hA : errA i = PySem.Str.ofString "WRONGTYPE a b") : LS w p loose mean mg mb 4 dec (.err i) := by
  intro got v
  k_fill
  intro dp un gd outer base g A₀ s R B st X T hW hsz hPre hd hu kont
  obtain ⟨hG, hPre⟩ := hPre
  unfold Lay at hPre
  unfold Got at hG
  obtain ⟨a, n, t, tx, rfl, e1⟩ := hPre
  obtain ⟨ex, tt, dx, ta, rfl, f1, f2⟩ := hG
  rw [hX] at e1
  rw [hA] at f2
  refine' enterC (binds := [("got", .ref ex), ("value", .ref a), ("texts", .bool dec)]) st X T hW hsz ?ho ?hcd ?hroom ?hbind ?hloc ?_ ?c2 ?c3 ?c4 ?c5
  case ho => k_is
  case hcd => k_is
  case hroom => omega
  case hbind => exact BindsTo.of_eq rfl
  case hloc => exact locs rfl
  case c2 => rfl
  case c3 => rfl
  case c4 => rfl
  case c5 => decide
  intro L' h₁ F N hlt
  replace F : Fr g L' h₁ (fun y => List.lookup y [("texts", .bool dec), ("value", .ref a), ("got", .ref ex)]) := F
  refine C_of ?_
  k_steps
  all_goals (try dsimp only)

  exact kont _ _ _ (Fr.keep (by assumption)) (by simp)
theorem ls_err3 (w : World) (p : Program) (loose : List Str) (mean : ExcName → Option Value) (mg mb : Str → Option Value) (dec : Bool) (i : Nat) (hX : errT i = PySem.Str.ofString "ERR") (hA : errA i = PySem.Str.ofString "") : LS w p loose mean mg mb 4 dec (.err i) := by
  intro got v
  k_fill
  intro dp un gd outer base g A₀ s R B st X T hW hsz hPre hd hu kont
  obtain ⟨hG, hPre⟩ := hPre
  unfold Lay at hPre
  unfold Got at hG
  obtain ⟨a, n, t, tx, rfl, e1⟩ := hPre
  obtain ⟨ex, tt, dx, ta, rfl, f1, f2⟩ := hG
  rw [hX] at e1
  rw [hA] at f2
  refine' enterC (binds := [("got", .ref ex), ("value", .ref a), ("texts", .bool dec)]) st X T hW hsz ?ho ?hcd ?hroom ?hbind ?hloc ?_ ?c2 ?c3 ?c4 ?c5
  case ho => k_is
  case hcd => k_is
  case hroom => omega
  case hbind => exact BindsTo.of_eq rfl
  case hloc => exact locs rfl
  case c2 => rfl
  case c3 => rfl
  case c4 => rfl
  case c5 => decide
  intro L' h₁ F N hlt
  replace F : Fr g L' h₁ (fun y => List.lookup y [("texts", .bool dec), ("value", .ref a), ("got", .ref ex)]) := F
  refine C_of ?_
  k_steps
  all_goals (try dsimp only)

  exact kont _ _ _ (Fr.keep (by assumption)) (by simp)
end Mine
end EzLs1
section EzLs2
open PySem PySem.W PyProof.Rows PySem.Calls
namespace Mine
set_option maxRecDepth 100000
set_option maxHeartbeats 1000000
local macro_rules | `(tactic| k_in) => `(tactic| first | k_in_fast | exact Frag.In.keeps (by k_asm) (Fr.keep (by k_asm)))
local macro_rules | `(tactic| k_room) => `(tactic| ktr_room)
local macro_rules | `(tactic| k_units) => `(tactic| ktr_units)
local macro_rules | `(tactic| k_fill) => `(tactic| (k_with_none; (k_with "eval Name" => (k_here; k_dflt (first | (refine' nameX_K ?F ?X ?T ?e ?_ ?a ?b ?c; (case F => k_asm); (case X => k_asm); (case T => k_asm); (case e => k_is); (case a => kernel_rfl); (case b => kernel_rfl); (case c => kernel_rfl); k_whole) | (refine' nameX_C ?N ?h ?m ?d ?_ ?a ?b ?c; (case h => rfl); (case N => k_asm); (case m => k_mem); (case d => k_asm); (case a => kernel_rfl); (case b => kernel_rfl); (case c => kernel_rfl); k_whole) | (refine' nameX_L ?F ?v ?_ ?a ?b ?c; (case F => k_asm); (case v => rfl); (case a => kernel_rfl); (case b => kernel_rfl); (case c => kernel_rfl); k_whole) | (refine' nameX_B ?F ?X ?T ?e ?v ?n ?_ ?a ?b ?c; (case F => k_asm); (case X => k_asm); (case T => k_asm); (case e => k_is); (case v => boot_fast); (case n => decide); (case a => kernel_rfl); (case b => kernel_rfl); (case c => kernel_rfl); k_whole)))); (k_with "ite" => (k_closed; first | (refine ite_pos ?h ?_; (case h => k_dflt (decide +kernel))) | (refine ite_neg ?h ?_; (case h => k_dflt (decide +kernel))))); (k_with "eval Call" => (k_here; (with_reducible show wpAny _ _ (eval (Expr.Call (Expr.Name _ _) _ [] _) _) _ _ _); k_dflt (refine Call_ ?_))); (k_with "getMethod bytes" => (k_here; (with_reducible refine by_ends_method ?_))); (k_with "call builtin:bytes.endswith" => (k_here; refine by_ends ?_)); (k_with "binaryOp Add bytes bytes" => (k_here; (with_reducible show wpAny _ _ (binaryOp Operator.Add (Value.bytes _ _) (Value.bytes _ _)) _ _ _); (refine by_add (by first | omega | (simp only [List.length_append]; omega)) ?_); intro _ _)); (k_with "inplaceOp Add bytes bytes" => (k_here; (refine by_iadd (by first | omega | (simp only [List.length_append]; omega)) ?_); intro _ _)); (k_with "subscriptTail" => (k_here; (with_reducible show wpAny _ _ (subscriptTail _ _ (Value.bytes _ _) (Value.ref _)) _ _ _); k_dflt (refine' by_slice (s := ⟨_, _, _, _, _⟩) ?k1 ?k2 ?k3 ?k4 ?k5 ?_ ?k6 ?k7; (case k1 => k_asm); (case k2 => k_asm); (case k3 => constructor); (case k4 => constructor); (case k5 => first | omega | (simp only [List.length_append, List.length_cons, List.length_nil]; omega)); (case k6 => with_unfolding_all rfl); (case k7 => intro _; with_unfolding_all rfl); k_whole); intro h' t' tk' F' N'; (try k_sweep))); (k_with "call builtin:len" => (k_here; (with_reducible show wpAny _ _ (call (Value.builtin "len") [Value.bytes (List.toArray _) _]) _ _ _); (refine by_len (by first | omega | (simp only [List.length_append]; omega)) ?_); intro _ _)); (k_with "binaryOp Add bytes bytes" => (k_here; (with_reducible show wpAny _ _ (binaryOp Operator.Add (Value.bytes _ _) (Value.bytes _ _)) _ _ _); (refine by_add ?hz ?_; (case hz => (simp only [List.length_append, List.length_cons, List.length_nil]; omega))); intro _ _)); (k_with "getMethod str" => (k_here; (with_reducible refine enc_method ?_))); (k_with "subscriptTail Name Constant ref int" => (k_here; (with_reducible show wpAny _ _ (subscriptTail _ _ (Value.ref _) (Value.int 0 _)) _ _ _); k_dflt (refine' item_base0 ?F ?e ?hs ?_; (case F => k_asm); (case e => assumption); (case hs => with_unfolding_all rfl); k_whole))); (k_with "subscriptTail Name Constant ref int" => (k_here; (with_reducible show wpAny _ _ (subscriptTail _ _ (Value.ref _) (Value.int 1 _)) _ _ _); k_dflt (refine' item_base1 ?F ?e ?hs ?_; (case F => k_asm); (case e => assumption); (case hs => with_unfolding_all rfl); k_whole))); (k_with "call builtin:len" => (k_here; (with_reducible show wpAny _ _ (call (Value.builtin "len") [Value.ref _]) _ _ _); k_dflt (refine' len_base ?F ?e ?hl ?_; (case F => k_asm); (case e => assumption); (case hl => omega); k_whole); intro _ _)); (k_with "call builtin:str.encode" => (k_here; first | (with_reducible refine enc_hyp2 (by assumption) ?_) ; intro _ _)); (k_with "compareOp Eq bytes bytes" => (k_here; (with_reducible refine by_eqT ?_))); (k_with "call builtin:isinstance" => (k_here; (with_reducible show wpAny _ _ (call (Value.builtin "isinstance") [Value.ref _, Value.ref _]) _ _ _); k_dflt (refine' exc_isy (K := Mine.frag.heap_1 _) (t0 := _) (dx := _) ?X ?I ?_; (case X => k_in); (case I => (refine Fr.keep (by k_asm) _ _ ?_; assumption)); k_whole))); (k_with "call builtin:isinstance" => (k_here; (with_reducible show wpAny _ _ (call (Value.builtin "isinstance") [Value.ref _, Value.type _]) _ _ _); k_dflt (refine' isy_type ?hT ?_; (case hT => exact ⟨_, Fr.keep (by k_asm) _ _ (by assumption), rfl⟩); k_whole))); (k_with "call type:str" => (k_here; (with_reducible show wpAny _ _ (call (Value.type "str") [Value.ref _]) _ _ _); k_dflt (refine' exc_str (K := Mine.frag.heap_1 _) (t0 := _) (dx := _) ?X ?I ?hs ?hb ?ht ?hu ?_; (case X => k_in); (case I => (refine Fr.keep (by k_asm) _ _ ?_; assumption)); (case hs => k_is); (case hb => k_is); (case ht => (refine Fr.keep (by k_asm) _ _ ?_; assumption)); (case hu => k_units); k_whole))); (k_with "subscriptTail" => (k_here; (with_reducible show wpAny _ _ (subscriptTail _ _ (Value.ref _) (Value.int (Nat.cast _) _)) _ _ _); k_dflt (refine' item_baseN ?F ?e ?hv ?hi ?hs ?_; (case F => k_asm); (case e => assumption); (case hv => assumption); (case hi => omega); (case hs => with_unfolding_all rfl); k_whole)))))
theorem ls_list (w : World) (p : Program) (loose : List Str) (mean : ExcName → Option Value) (mg mb : Str → Option Value) (dec : Bool) (nn : Nat) (xs : List Vl) (hlen : xs.length < 4) (ih : ∀ x ∈ xs, LS w p loose mean mg mb nn dec x) : LS w p loose mean mg mb (nn + 2) dec (.list xs) := by
  intro got v
  k_fill
  intro dp un gd outer base g A₀ s R B st X T hW hsz hPre hd hu kont
  obtain ⟨hG, hPre⟩ := hPre
  unfold Lay at hPre
  unfold Got at hG
  obtain ⟨a, n, t, r, vs, k5, rfl, e1, e2, hLs⟩ := hPre
  obtain ⟨l, us, k6, rfl, f1, hGs⟩ := hG
  refine' enterC (binds := [("got", .ref l), ("value", .ref a), ("texts", .bool dec)]) st X T hW hsz ?ho ?hcd ?hroom ?hbind ?hloc ?_ ?c2 ?c3 ?c4 ?c5
  case ho => k_is
  case hcd => k_is
  case hroom => omega
  case hbind => exact BindsTo.of_eq rfl
  case hloc => exact locs rfl
  case c2 => rfl
  case c3 => rfl
  case c4 => rfl
  case c5 => decide
  intro L' h₁ F N hlt
  replace F : Fr g L' h₁ (fun y => List.lookup y [("texts", .bool dec), ("value", .ref a), ("got", .ref l)]) := F
  have hvl := Lays.len hLs
  have hul := Gots.len hGs
  have hul4 : us.length < 4 := by omega
  refine C_cons (C_If ?_)
  k_steps
  all_goals (try dsimp only)
  refine C_cons (C_If ?_)
  k_steps
  all_goals (try dsimp only)
  all_goals (try (exfalso; omega))
  refine C_nil ?_
  (try dsimp only)
  rename Fr g L' _ _ => kF
  rename News g L' _ _ => kN
  refine C_cons (C_For_range (h₀ := g) (L := L') us.length (fun i m news => ∃ (ov : Option Value), m = (fun (y : PySem.Str) => if y = "place" then ov else List.lookup y [("texts", .bool dec), ("value", .ref a), ("got", .ref l)]) ∧ news = ([] : List (Addr × Obj))) rfl rfl rfl rfl ?h (range_small hul4).1 (range_small hul4).2)
  case h =>
    iterate 12 (first | walk1 | (dsimp only; walk1))
    refine range1_rows kF kN ?_
    intro h₆ t₆ ta tb tc hr F₆ N₆ _
    clear kF kN
    refine ⟨_, ta, tb, tc, _, _, rfl, F₆, N₆, hr, ?J0, ?turn, ?fin⟩
    case J0 =>
      refine ⟨none, ?_, rfl⟩
      funext y
      by_cases e0 : y = "place"
      · subst e0; with_unfolding_all rfl
      simp only [e0, if_false]
    case turn =>
      rintro i m news v I oI h tk hi ⟨tt, rfl⟩ ⟨ov, rfl, rfl⟩ F N off
      have hix : i < xs.length := by omega
      have hV : xs[i]? = some xs[i] := List.getElem?_eq_getElem hix
      obtain ⟨gi, hgi, hGi⟩ := Gots.get hGs hV
      obtain ⟨vi, hvi⟩ : ∃ vi, vs[i]? = some vi := ⟨vs[i]'(by omega), List.getElem?_eq_getElem (by omega)⟩
      obtain ⟨V', hV', hLi⟩ := Lays.get hLs hvi
      obtain rfl : xs[i] = V' := Option.some.inj (hV.symm.trans hV')
      refine C_cons (C_IfW (C_isTrue_Not (C_isTrue_Call (C_Call_Name ?_))))
      k_steps
      refine C_callK (K := Mine.frag.heap_1 w.params) ?kK ?_
      case kK => k_is
      k_steps
      rename Fr g L' _ _ => kF
      rename News g L' _ _ => kN
      (try dsimp only [List.cons_append, List.nil_append])
      refine useC (ih _ (List.getElem_mem hix) gi vi) B kF X kN T rfl (keepL := [(I, oI)]) (fun _ q => nomatch q) (fun q hq => ⟨hq, fun hm => nomatch hm⟩) (fun g' st _ => ⟨Got.mono (fun a o e => st _ _ e) hGi, Lay.mono (fun a o e => st _ _ e) hLi⟩) ?hd ?hu ?_
      case hd => show dp + 1 + nn < recursionLimit; omega
      case hu => show un + 3 + 8 * nn < cLine; omega
      intro v₇ h₇ t₇ g₇ F₇ N₇ st₇ kp₇ st₇' post₇ bld
      subst post₇
      clear kF kN bld
      (try dsimp only)
      k_steps
      all_goals (try dsimp only)
      refine C_nil ?_
      (try dsimp only)
      refine C_nil ?_
      (try dsimp only)
      rename Fr g L' _ _ => kF
      rename News g L' _ _ => kN
      refine ⟨_, _, _, [], rfl, kF, kN, off1_of (fun p hp => nomatch hp), some (.int ((i : Nat) : Int) tt), ?_, rfl⟩
      funext y
      by_cases e0 : y = "place"
      · subst e0; with_unfolding_all rfl
      simp only [e0, if_false]
    case fin =>
      rintro m h tk news ⟨ov, rfl, rfl⟩ F N
      refine C_consK ?_
      k_steps
      all_goals (try dsimp only)
      exact kont _ _ _ (Fr.keep (by assumption)) rfl
theorem LS.up {w : World} {p : Program} {loose : List Str} {mean : ExcName → Option Value} {mg mb : Str → Option Value} {n n' : Nat} {dec : Bool} {V : Vl} (C : LS w p loose mean mg mb n dec V) (h : n ≤ n') : LS w p loose mean mg mb n' dec V := fun a v => (C a v).up h
theorem ls_all (w : World) (p : Program) (loose : List Str) (mean : ExcName → Option Value) (mg mb : Str → Option Value) (dec : Bool) : ∀ (d : Nat) (V : Vl), Wf d V → LS w p loose mean mg mb (4 + 2 * d) dec V := by
  intro d V h
  induction h with
  | @list d xs hl hx ih => exact ls_list w p loose mean mg mb dec _ xs hl ih
  | null => exact (ls_null w p loose mean mg mb dec).up (Nat.le_add_right _ _)
  | non => exact (ls_non w p loose mean mg mb dec).up (Nat.le_add_right _ _)
  | num a b => exact (ls_num w p loose mean mg mb dec _).up (Nat.le_add_right _ _)
  | line =>
    cases dec
    · exact (ls_lineF w p loose mean mg mb _).up (Nat.le_add_right _ _)
    · exact (ls_lineT w p loose mean mg mb _).up (Nat.le_add_right _ _)
  | oct =>
    cases dec
    · exact (ls_octF w p loose mean mg mb _).up (Nat.le_add_right _ _)
    · exact (ls_octT w p loose mean mg mb _).up (Nat.le_add_right _ _)
  | @err d i =>
    match i with
    | 0 => exact (ls_err0 w p loose mean mg mb dec 0 rfl rfl).up (Nat.le_add_right _ _)
    | 1 => exact (ls_err1 w p loose mean mg mb dec 1 rfl rfl).up (Nat.le_add_right _ _)
    | 2 => exact (ls_err2 w p loose mean mg mb dec 2 rfl rfl).up (Nat.le_add_right _ _)
    | i + 3 => exact (ls_err3 w p loose mean mg mb dec (i + 3) rfl rfl).up (Nat.le_add_right _ _)
end Mine
end EzLs2
section EzRs
open PySem PySem.W PyProof.Rows PySem.Calls
namespace Mine
set_option maxRecDepth 100000
set_option maxHeartbeats 1000000
local macro_rules | `(tactic| k_in) => `(tactic| first | k_in_fast | exact Frag.In.keeps (by k_asm) (Fr.keep (by k_asm)))
local macro_rules | `(tactic| k_room) => `(tactic| ktr_room)
local macro_rules | `(tactic| k_units) => `(tactic| ktr_units)
local macro_rules | `(tactic| k_fill) => `(tactic| (k_with_none; (k_with "eval Name" => (k_here; k_dflt (first | (refine' nameX_K ?F ?X ?T ?e ?_ ?a ?b ?c; (case F => k_asm); (case X => k_asm); (case T => k_asm); (case e => k_is); (case a => kernel_rfl); (case b => kernel_rfl); (case c => kernel_rfl); k_whole) | (refine' nameX_C ?N ?h ?m ?d ?_ ?a ?b ?c; (case h => rfl); (case N => k_asm); (case m => k_mem); (case d => k_asm); (case a => kernel_rfl); (case b => kernel_rfl); (case c => kernel_rfl); k_whole) | (refine' nameX_L ?F ?v ?_ ?a ?b ?c; (case F => k_asm); (case v => rfl); (case a => kernel_rfl); (case b => kernel_rfl); (case c => kernel_rfl); k_whole) | (refine' nameX_B ?F ?X ?T ?e ?v ?n ?_ ?a ?b ?c; (case F => k_asm); (case X => k_asm); (case T => k_asm); (case e => k_is); (case v => boot_fast); (case n => decide); (case a => kernel_rfl); (case b => kernel_rfl); (case c => kernel_rfl); k_whole)))); (k_with "ite" => (k_closed; first | (refine ite_pos ?h ?_; (case h => k_dflt (decide +kernel))) | (refine ite_neg ?h ?_; (case h => k_dflt (decide +kernel))))); (k_with "getMethod bytes" => (k_here; (with_reducible refine by_ends_method ?_))); (k_with "call builtin:bytes.endswith" => (k_here; refine by_ends ?_)); (k_with "binaryOp Add bytes bytes" => (k_here; (with_reducible show wpAny _ _ (binaryOp Operator.Add (Value.bytes _ _) (Value.bytes _ _)) _ _ _); (refine by_add (by first | omega | (simp only [List.length_append]; omega)) ?_); intro _ _)); (k_with "inplaceOp Add bytes bytes" => (k_here; (refine by_iadd (by first | omega | (simp only [List.length_append]; omega)) ?_); intro _ _)); (k_with "subscriptTail" => (k_here; (with_reducible show wpAny _ _ (subscriptTail _ _ (Value.bytes _ _) (Value.ref _)) _ _ _); k_dflt (refine' by_slice (s := ⟨_, _, _, _, _⟩) ?k1 ?k2 ?k3 ?k4 ?k5 ?_ ?k6 ?k7; (case k1 => k_asm); (case k2 => k_asm); (case k3 => constructor); (case k4 => constructor); (case k5 => first | omega | (simp only [List.length_append, List.length_cons, List.length_nil]; omega)); (case k6 => with_unfolding_all rfl); (case k7 => intro _; with_unfolding_all rfl); k_whole); intro h' t' tk' F' N'; (try k_sweep))); (k_with "call builtin:len" => (k_here; (with_reducible show wpAny _ _ (call (Value.builtin "len") [Value.bytes (List.toArray _) _]) _ _ _); (refine by_len (by first | omega | (simp only [List.length_append]; omega)) ?_); intro _ _)); (k_with "call ref" => (k_here; (first | (with_reducible show wpAny _ _ (call (Value.ref 910) _ _) _ _ _) | (with_reducible show wpAny _ _ (call (Value.ref (nat_lit 910)) _ _) _ _ _)); k_dflt ((with_reducible rename Strm _ _ _ _ _ => kS); refine' s6_pos (keep := _) ?B ?F ?X ?T ?N ?hap ?hk rfl kS ?hd ?hu ?_; (case B => k_asm); (case F => k_asm); (case X => k_asm); (case T => k_asm); (case N => k_asm); (case hap => assumption); (case hk => rfl); (case hd => first | omega | (dsimp only [Ar, Around.deeper]; omega)); (case hu => first | omega | (dsimp only [Ar, Around.deeper]; omega)); k_whole); intro h' t' tq' tv' F' N'; (try k_sweep)))))
theorem sub_nil {α : Type} (a b c : List α) : ∀ x ∈ a ++ (b ++ c), x ∈ (a ++ b) ++ (c ++ []) := by
  intro x h
  simp only [List.mem_append] at h ⊢
  rcases h with h | h | h <;> simp [h]
theorem six_keep {sb sd b bd ba pl pp pd en ed : Addr} {four T2 : List (Addr × Obj)} (h1 : ∀ x ∈ four, x.1 ∉ ([sb, sd, b, bd, ba, pl] : List Addr)) (h2 : ∀ x ∈ T2, x.1 ∉ ([sb, sd, b, bd, ba, pl, pp, pd, en, ed] : List Addr)) : ∀ x ∈ four ++ T2, x.1 ∉ ([sb, sd, b, bd, ba, pl] : List Addr) := fun x hx hm => (List.mem_append.mp hx).elim (fun q => h1 x q hm) fun q => h2 x q (by
    simp only [List.mem_cons, List.not_mem_nil, or_false] at hm ⊢
    rcases hm with e | e | e | e | e | e <;> simp [e])
theorem rs_def (w : World) (p : Program) (loose : List Str) (mean : ExcName → Option Value) (mg mb : Str → Option Value) (k kp : K4) (sb sd b bd ba pl pp pd en ed : Addr) (h1 h2 : Int) (t1 t2 u0 u te1 te2 : Tok) (de : Bool) (hA : Apart sb sd b bd ba pl pp pd en ed) (V : Vl) (hV : Wf 2 V) (bs : List UInt8) (q : Nat) (t : Tok) (ps : List (List UInt8)) (vs : List Value) (n : Nat) (R' : List UInt8) (S : Strm bs q vs ps (V.wr ++ R')) :
    DoesC (Mine.frag.heap_1 w.params) PySem.Challenge.rw_ez0337_01.row.prog w p loose mean mg mb 32 1068 [.ref pp] [] ([(sb, instObj 934 sd), (sd, sbD k (.ref pl) 4 u0 .none b), (b, instObj 601 bd), (bd, bioD h1 h2 t1 t2 ba ((q : Nat) : Int) t), (ba, baObj (bs).toArray), (pl, listOf (vs).toArray n)] ++ [(pp, instObj 1077 pd), (pd, parD kp u (.ref en) (.ref pl) (.ref sb)), (en, encOb de ed te1 te2), (ed, dictOf [] 0)]) (fun _ => True) (rrPost k kp sb sd b bd ba pl pp pd en ed h1 h2 t1 t2 u0 u te1 te2 false de V R') := by
  k_fill
  intro dp un gd outer base g A₀ s R B st X T hW hsz hPre hd hu kont
  refine' enterC st X T hW hsz ?ho ?hcd ?hroom ?hbind ?hloc ?_ ?c2 ?c3 ?c4 ?c5
  case ho => k_is
  case hcd => k_is
  case hroom => omega
  case hbind => first | exact BindsTo.of_eq rfl | exact binds_K (X.keeps fun b o e => st b o e) rfl (by k_is) rfl rfl rfl
  case hloc => exact locs rfl
  case c2 => rfl
  case c3 => rfl
  case c4 => rfl
  case c5 => decide
  intro L' h₁ F N hlt
  (try k_lt hlt)
  dsimp only
  have hap : ∀ x ∈ [(pp, instObj 1077 pd), (pd, parD kp u (.ref en) (.ref pl) (.ref sb)), (en, encOb de ed te1 te2), (ed, dictOf [] 0)], x.1 ∉ ([sb, sd, b, bd, ba, pl] : List Addr) := fun x hx => by
    simp only [List.mem_cons, List.not_mem_nil, or_false] at hx
    rcases hx with rfl | rfl | rfl | rfl
    · exact hA _ (.head _)
    · exact hA _ (.tail _ (.head _))
    · exact hA _ (.tail _ (.tail _ (.head _)))
    · exact hA _ (.tail _ (.tail _ (.tail _ (.head _))))
  have hrr := rr_all w p loose mean mg mb k kp sb sd b bd ba pl pp pd en ed h1 h2 t1 t2 u0 u te1 te2 false de hA 2 V hV
  dsimp only [List.cons_append, List.nil_append] at N hlt
  have S0 := S
  refine C_consK ?_
  k_steps
  all_goals (try dsimp only)
  refine C_cons (C_TryExcept ?_)
  refine C_cons (C_Assign_Name (C_Call ?_))
  k_steps
  refine C_callKW0 (K := Mine.frag.heap_1 w.params) ?kK ?kA ?_
  case kK => k_is
  case kA => rfl
  k_steps
  rename Fr g L' _ _ => kF
  rename News g L' _ _ => kN
  (try dsimp only [List.cons_append, List.nil_append])
  refine' s6_rr hrr B kF X T S kN (keep := []) (fun _ h => nomatch h) rfl ?hd ?hu ?_
  case hd => show dp + 1 + 24 < recursionLimit; omega
  case hu => show un + 3 + 8 * 24 < cLine; omega
  intro v₇ h₇ t₇ T2 bs3 q3 vs3 ps3 n3 tq3 F₇ N₇ hT2 hG2 S3
  clear kF kN hrr
  dsimp only [List.cons_append, List.nil_append] at N₇
  (try dsimp only)
  k_steps
  all_goals (try dsimp only)
  refine C_nil ?_
  (try dsimp only)
  refine C_cons (C_Expr (C_Call ?_))
  k_steps
  refine C_callK0 (K := Mine.frag.heap_1 w.params) (X.keeps (Fr.keep (by assumption))) ?kK ?_
  case kK => k_is
  rename Fr g L' _ _ => kF
  rename News g L' _ _ => kN
  (try dsimp only [List.cons_append, List.nil_append])
  have kN3 := News.perm kN (sub_nil [(sb, instObj 934 sd), (sd, sbD k (.ref pl) 4 u0 .none b), (b, instObj 601 bd), (bd, bioD h1 h2 t1 t2 ba ((q3 : Nat) : Int) tq3), (ba, baObj (bs3).toArray), (pl, listOf (vs3).toArray n3)] [(pp, instObj 1077 pd), (pd, parD kp u (.ref en) (.ref pl) (.ref sb)), (en, encOb de ed te1 te2), (ed, dictOf [] 0)] T2)
  refine' s6_purge B kF X T kN3 (six_keep hap (fun x hx => (hT2 x hx).1)) rfl rfl S3 ?hd ?hu ?_
  case hd => show dp + 1 + 14 < recursionLimit; omega
  case hu => show un + 3 + 8 * 14 < cLine; omega
  intro h₄ t₄ bs4 q4 vs4 ps4 n4 tq4 F₄ N₄ S4
  clear kF kN kN3
  dsimp only [List.cons_append, List.nil_append] at N₄
  (try dsimp only)
  k_steps
  all_goals (try dsimp only)
  refine C_consK ?_
  k_steps
  all_goals (try dsimp only)
  rename News g L' _ _ => kN7
  refine kont _ _ _ (Fr.keep (by assumption)) ⟨T2, bs4, q4, vs4, ps4, n4, tq4, fun x hx => ?_, hG2, S4, fun x hx => ?_⟩
  · have hmm := kN7 x (.tail _ (.tail _ (.tail _ (.tail _ (.tail _ (.tail _ (.tail _ (.tail _ (.tail _ (.tail _ hx))))))))))
    exact ⟨hmm.1, hmm.2.2, (hT2 x hx).1⟩
  · simp only [List.cons_append, List.nil_append, List.mem_cons, List.not_mem_nil, or_false] at hx
    rcases hx with rfl | rfl | rfl | rfl | rfl | rfl | rfl | rfl | rfl | rfl <;> exact kN7.get (by k_mem)

theorem rs_dis (w : World) (p : Program) (loose : List Str) (mean : ExcName → Option Value) (mg mb : Str → Option Value) (k kp : K4) (sb sd b bd ba pl pp pd en ed : Addr) (h1 h2 : Int) (t1 t2 u0 u te1 te2 : Tok) (de : Bool) (hA : Apart sb sd b bd ba pl pp pd en ed) (V : Vl) (hV : Wf 2 V) (bs : List UInt8) (q : Nat) (t : Tok) (ps : List (List UInt8)) (vs : List Value) (n : Nat) (R' : List UInt8) (S : Strm bs q vs ps (V.wr ++ R')) :
    DoesC (Mine.frag.heap_1 w.params) PySem.Challenge.rw_ez0337_01.row.prog w p loose mean mg mb 32 1068 [.ref pp] [("disable_decoding", .bool true)] ([(sb, instObj 934 sd), (sd, sbD k (.ref pl) 4 u0 .none b), (b, instObj 601 bd), (bd, bioD h1 h2 t1 t2 ba ((q : Nat) : Int) t), (ba, baObj (bs).toArray), (pl, listOf (vs).toArray n)] ++ [(pp, instObj 1077 pd), (pd, parD kp u (.ref en) (.ref pl) (.ref sb)), (en, encOb de ed te1 te2), (ed, dictOf [] 0)]) (fun _ => True) (rrPost k kp sb sd b bd ba pl pp pd en ed h1 h2 t1 t2 u0 u te1 te2 true de V R') := by
  k_fill
  intro dp un gd outer base g A₀ s R B st X T hW hsz hPre hd hu kont
  refine' enterC st X T hW hsz ?ho ?hcd ?hroom ?hbind ?hloc ?_ ?c2 ?c3 ?c4 ?c5
  case ho => k_is
  case hcd => k_is
  case hroom => omega
  case hbind => first | exact BindsTo.of_eq rfl | exact binds_K (X.keeps fun b o e => st b o e) rfl (by k_is) rfl rfl rfl
  case hloc => exact locs rfl
  case c2 => rfl
  case c3 => rfl
  case c4 => rfl
  case c5 => decide
  intro L' h₁ F N hlt
  (try k_lt hlt)
  dsimp only
  have hap : ∀ x ∈ [(pp, instObj 1077 pd), (pd, parD kp u (.ref en) (.ref pl) (.ref sb)), (en, encOb de ed te1 te2), (ed, dictOf [] 0)], x.1 ∉ ([sb, sd, b, bd, ba, pl] : List Addr) := fun x hx => by
    simp only [List.mem_cons, List.not_mem_nil, or_false] at hx
    rcases hx with rfl | rfl | rfl | rfl
    · exact hA _ (.head _)
    · exact hA _ (.tail _ (.head _))
    · exact hA _ (.tail _ (.tail _ (.head _)))
    · exact hA _ (.tail _ (.tail _ (.tail _ (.head _))))
  have hrr := rr_all w p loose mean mg mb k kp sb sd b bd ba pl pp pd en ed h1 h2 t1 t2 u0 u te1 te2 true de hA 2 V hV
  dsimp only [List.cons_append, List.nil_append] at N hlt
  have S0 := S
  refine C_consK ?_
  k_steps
  all_goals (try dsimp only)
  refine C_cons (C_TryExcept ?_)
  refine C_cons (C_Assign_Name (C_Call ?_))
  k_steps
  refine C_callKW0 (K := Mine.frag.heap_1 w.params) ?kK ?kA ?_
  case kK => k_is
  case kA => rfl
  k_steps
  rename Fr g L' _ _ => kF
  rename News g L' _ _ => kN
  (try dsimp only [List.cons_append, List.nil_append])
  refine' s6_rr hrr B kF X T S kN (keep := []) (fun _ h => nomatch h) rfl ?hd ?hu ?_
  case hd => show dp + 1 + 24 < recursionLimit; omega
  case hu => show un + 3 + 8 * 24 < cLine; omega
  intro v₇ h₇ t₇ T2 bs3 q3 vs3 ps3 n3 tq3 F₇ N₇ hT2 hG2 S3
  clear kF kN hrr
  dsimp only [List.cons_append, List.nil_append] at N₇
  (try dsimp only)
  k_steps
  all_goals (try dsimp only)
  refine C_nil ?_
  (try dsimp only)
  refine C_cons (C_Expr (C_Call ?_))
  k_steps
  refine C_callK0 (K := Mine.frag.heap_1 w.params) (X.keeps (Fr.keep (by assumption))) ?kK ?_
  case kK => k_is
  rename Fr g L' _ _ => kF
  rename News g L' _ _ => kN
  (try dsimp only [List.cons_append, List.nil_append])
  have kN3 := News.perm kN (sub_nil [(sb, instObj 934 sd), (sd, sbD k (.ref pl) 4 u0 .none b), (b, instObj 601 bd), (bd, bioD h1 h2 t1 t2 ba ((q3 : Nat) : Int) tq3), (ba, baObj (bs3).toArray), (pl, listOf (vs3).toArray n3)] [(pp, instObj 1077 pd), (pd, parD kp u (.ref en) (.ref pl) (.ref sb)), (en, encOb de ed te1 te2), (ed, dictOf [] 0)] T2)
  refine' s6_purge B kF X T kN3 (six_keep hap (fun x hx => (hT2 x hx).1)) rfl rfl S3 ?hd ?hu ?_
  case hd => show dp + 1 + 14 < recursionLimit; omega
  case hu => show un + 3 + 8 * 14 < cLine; omega
  intro h₄ t₄ bs4 q4 vs4 ps4 n4 tq4 F₄ N₄ S4
  clear kF kN kN3
  dsimp only [List.cons_append, List.nil_append] at N₄
  (try dsimp only)
  k_steps
  all_goals (try dsimp only)
  refine C_consK ?_
  k_steps
  all_goals (try dsimp only)
  rename News g L' _ _ => kN7
  refine kont _ _ _ (Fr.keep (by assumption)) ⟨T2, bs4, q4, vs4, ps4, n4, tq4, fun x hx => ?_, hG2, S4, fun x hx => ?_⟩
  · have hmm := kN7 x (.tail _ (.tail _ (.tail _ (.tail _ (.tail _ (.tail _ (.tail _ (.tail _ (.tail _ (.tail _ hx))))))))))
    exact ⟨hmm.1, hmm.2.2, (hT2 x hx).1⟩
  · simp only [List.cons_append, List.nil_append, List.mem_cons, List.not_mem_nil, or_false] at hx
    rcases hx with rfl | rfl | rfl | rfl | rfl | rfl | rfl | rfl | rfl | rfl <;> exact kN7.get (by k_mem)

end Mine
end EzRs
section EzLaw0
open PySem PySem.W PyProof.Rows PySem.Calls
namespace Mine
set_option maxRecDepth 100000
set_option maxHeartbeats 1000000

theorem rng_out {h : Heap} {r : Addr} {x : Int} {ta tb tc : Tok} (hr : IsRange h r 0 (1 + Int.fmod x 3) 1 ta tb tc) : ∃ nm : Nat, 1 ≤ nm ∧ nm < 4 ∧ IsRange h r 0 nm 1 ta tb tc := by
  have h1 := fm x (b := 3) (by decide)
  refine ⟨(1 + Int.fmod x 3).toNat, by omega, by omega, ?_⟩
  rw [show (((1 + Int.fmod x 3).toNat : Nat) : Int) = 1 + Int.fmod x 3 by omega]
  exact hr
theorem wide_ok (x : Int) : 1 ≤ 1 + x.fmod 7 ∧ 1 + x.fmod 7 ≤ 7 := by
  have h1 := fm x (b := 7) (by decide)
  omega
theorem allLt_mem {d : Addr} : ∀ {l : List (Addr × Obj)}, AllLt d l → ∀ p ∈ l, p.1 ≠ d
  | [], _, _, h => nomatch h
  | _ :: _, x, p, h => by
    rcases List.mem_cons.mp h with rfl | h
    · exact Nat.ne_of_lt x.1
    · exact allLt_mem x.2 p h
theorem tail_ne {P x : Addr} {T : List (Addr × Obj)} (h : AllLt P T) (hx : @LT.lt Nat _ P x) : ∀ p ∈ T, p.1 ≠ x := by
  induction T with
  | nil => exact fun _ hp => nomatch hp
  | cons a T ih =>
    intro p hp
    rcases List.mem_cons.mp hp with rfl | hp
    · exact Nat.ne_of_lt (Nat.lt_trans h.1 hx)
    · exact ih h.2 p hp
theorem fin_sub {α : Type} (six t2 : List α) (i : α) (r : List α) : ∀ x ∈ i :: (six ++ r), x ∈ six ++ (t2 ++ (i :: r)) := by
  intro x h
  simp only [List.mem_cons, List.mem_append] at h ⊢
  rcases h with h | h | h <;> simp [h]
theorem clip_nn {n : Nat} {z : Int} (h : 0 ≤ z) : clipAt n z = min z.toNat n := by
  unfold clipAt
  rw [if_neg (by omega)]
  omega
theorem cut_take {b : List UInt8} {z : Int} (h : 0 ≤ z) : cut b none (some z) = b.take z.toNat := by
  unfold cut
  simp only [Option.elim_none, Option.elim_some]
  rw [clip_nn h, List.drop_zero, Nat.sub_zero, Nat.min_comm, ← List.take_take]
  exact List.take_of_length_le (by rw [List.length_take]; omega)
theorem cut_drop {b : List UInt8} {z : Int} (h : 0 ≤ z) : cut b (some z) none = b.drop z.toNat := by
  unfold cut
  simp only [Option.elim_none, Option.elim_some]
  rw [clip_nn h]
  by_cases hz : z.toNat ≤ b.length
  · rw [Nat.min_eq_left hz, List.take_of_length_le (by rw [List.length_drop]; omega)]
  · rw [Nat.min_eq_right (by omega), Nat.sub_self, List.take_zero, List.drop_of_length_le (by omega)]
theorem PartsV.snoc {vs : List Value} {ps : List (List UInt8)} {p : List UInt8} {t : Tok} (h : PartsV vs ps) (h1 : 0 < p.length) (h2 : p.length < 1000) : PartsV (vs ++ [.bytes p.toArray t]) (ps ++ [p]) := by
  induction h with
  | nil => exact .cons h1 h2 .nil
  | cons a b _ ih => exact .cons a b ih
theorem wrs_bound : ∀ (Vs : List Vl), (∀ V ∈ Vs, Wf 2 V) → (wrs Vs).length ≤ Vs.length * 640
  | [], _ => by simp [wrs]
  | V :: Vs, h => by
    have h1 : V.wr.length ≤ 640 := wr_len 2 V (h V (.head _))
    have h2 := wrs_bound Vs fun x hx => h x (.tail _ hx)
    rw [wrs, List.length_append, List.length_cons, Nat.succ_mul]
    omega
theorem wrs_at {Vs : List Vl} (hW : ∀ V ∈ Vs, Wf 2 V) (hl : Vs.length ≤ 3) {i : Nat} {V : Vl} (h : Vs[i]? = some V) : (wrs (Vs.take i)).length + V.wr.length ≤ 2560 := by
  have h1 : V.wr.length ≤ 640 := wr_len 2 V (hW V (List.mem_of_getElem? h))
  have h2 := wrs_bound (Vs.take i) fun x hx => hW x (List.mem_of_mem_take hx)
  have h3 : (Vs.take i).length ≤ 3 := by rw [List.length_take]; omega
  have h4 : (Vs.take i).length * 640 ≤ 3 * 640 := Nat.mul_le_mul_right _ h3
  omega
theorem strm_end {bs : List UInt8} {q : Nat} {vs : List Value} {ps : List (List UInt8)} (S : Strm bs q vs ps []) : vs = [] := by
  obtain ⟨_, hP, hR, _⟩ := S
  have h2 : ps.flatten = [] := (List.append_eq_nil_iff.mp hR).2
  cases hP with
  | nil => rfl
  | cons a _ _ =>
    rw [List.flatten_cons] at h2
    have := (List.append_eq_nil_iff.mp h2).1
    rw [this] at a
    exact absurd a (by decide)
section
variable {w : World} {p : Program} {loose : List Str} {mean : ExcName → Option Value} {mg mb : Str → Option Value} {dp un : Nat} {gd : Option (List Code)} {outer : List Env} {base g : Heap} {A₀ : Around} {s : Shared} {cn : Str} {cs : Scope} {L a : Addr} {ccd : Value} {cl : List (Str × Addr)} {m : Str → Option Value}
  {kp : K4} {pl pp pd en ed ct : Addr} {u te1 te2 : Tok} {de : Bool}

theorem c_conn {Q : Value → Shared → Prop} {vs : List Value} {n : Nat} {keep : List (Addr × Obj)} (B : Below A₀ base outer g) (F : Fr g L s.heap m) (X : (Mine.frag.heap_1 w.params).In g) (T : Top p loose mean mg mb g)
    (N : News g L s.heap ([(pp, instObj 1077 pd), (pd, parD kp u .none .none .none), (ct, tupOb [.ref pl, .none, .ref en])] ++ ([(pl, listOf vs.toArray n), (en, encOb de ed te1 te2), (ed, dictOf [] 0)] ++ keep)))
    (h0 : ∀ q ∈ [(pl, listOf vs.toArray n), (en, encOb de ed te1 te2), (ed, dictOf [] 0)] ++ keep, q.1 ∉ ([pp, pd, ct] : List Addr)) (h1 : ∀ q ∈ keep, q.1 ∉ ([pl, en, ed] : List Addr)) (h2 : @Ne Nat pp pd) (h3 : en ≠ pl ∧ ed ≠ pl) (hk : cs.kind = .function) (hd : dp + 20 < recursionLimit) (hu : un + 8 * 20 < cLine)
    (h : ∀ h' t' k sb sd b bd ba h1 h2 t1 t2 t, Fr g L h' m → News g L h' (([(sb, instObj 934 sd), (sd, sbD k (.ref pl) 4 u .none b), (b, instObj 601 bd), (bd, bioD h1 h2 t1 t2 ba ((0 : Nat) : Int) t), (ba, baObj ([] : List UInt8).toArray), (pl, listOf (vs).toArray n)] ++ [(pp, instObj 1077 pd), (pd, parD kp u (.ref en) (.ref pl) (.ref sb)), (en, encOb de ed te1 te2), (ed, dictOf [] 0)]) ++ keep) → Apart sb sd b bd ba pl pp pd en ed → (∀ q ∈ keep, q.1 ∉ ([sb, sd, b, bd, ba, pl, pp, pd, en, ed] : List Addr)) → Q .none { s with heap := h', toks := t' }) :
    wpC (model PySem.Challenge.rw_ez0337_01.row.prog w) (Ar dp un gd (envX cn cs L a ccd cl :: outer)) (call (.ref 1033) [.ref pp, .ref ct] []) Q s := by
  refine useC (onconn_does w p loose mean mg mb kp u pp pd ct pl en h2) B F X N T hk (keepL := [(pl, listOf vs.toArray n), (en, encOb de ed te1 te2), (ed, dictOf [] 0)] ++ keep) (fun _ q => List.mem_append_left _ q) (fun q hq => ⟨List.mem_append_right _ hq, fun hm => h0 q hq hm⟩) (fun _ _ _ => trivial) hd hu ?_
  intro v₄ h₄ t₄ g₄ F₄ N₄ st₄ kp₄ st₄' post₄ bld
  obtain ⟨rfl, k, sb, sd, b, bd, ba, i1, i2, t1, t2, t, e1, e2, e3⟩ := post₄
  have fr : ∀ q ∈ [(sb, instObj 934 sd), (sd, sbD k (.ref pl) 4 u .none b), (b, instObj 601 bd), (bd, bioD i1 i2 t1 t2 ba 0 t), (ba, baObj #[])], ∀ x ∈ [(pl, listOf vs.toArray n), (en, encOb de ed te1 te2), (ed, dictOf [] 0)] ++ keep, x.1 ≠ q.1 := fun q hq x hx e => by
    have z := kp₄ x hx
    rw [e, (e3 q hq).2] at z; cases z
  have N₅ := bld [(pp, instObj 1077 pd), (pd, parD kp u (.ref en) (.ref pl) (.ref sb))] (all2 ⟨e1, .inl (.head _)⟩ ⟨e2, .inl (.tail _ (.head _))⟩)
  have N₆ := bld _ (fun q hq => ⟨(e3 q hq).1, .inr (e3 q hq).2⟩)
  have N₇ := News.append N₅ (News.append N₆ N₄)
  have O : ∀ q ∈ [(sb, instObj 934 sd), (sd, sbD k (.ref pl) 4 u .none b), (b, instObj 601 bd), (bd, bioD i1 i2 t1 t2 ba 0 t), (ba, baObj #[])], h₄.get? q.1 = some q.2 := fun q hq => (e3 q hq).1
  refine h h₄ t₄ k sb sd b bd ba i1 i2 t1 t2 t F₄ (News.perm N₇ ?_) ?_ ?_
  · intro x hx
    simp only [List.cons_append, List.nil_append, List.mem_cons, List.mem_append] at hx ⊢
    rcases hx with h | h | h | h | h | h | h | h | h | h | h <;> simp [h]
  · have g1 := fr (sb, instObj 934 sd) (.head _)
    have g2 := fr (sd, _) (.tail _ (.head _))
    have g3 := fr (b, instObj 601 bd) (.tail _ (.tail _ (.head _)))
    have g4 := fr (bd, _) (.tail _ (.tail _ (.tail _ (.head _))))
    have g5 := fr (ba, _) (.tail _ (.tail _ (.tail _ (.tail _ (.head _)))))
    have o1 := O (sb, _) (.head _)
    have o2 := O (sd, _) (.tail _ (.head _))
    have o3 := O (b, _) (.tail _ (.tail _ (.head _)))
    have o4 := O (bd, _) (.tail _ (.tail _ (.tail _ (.head _))))
    have o5 := O (ba, _) (.tail _ (.tail _ (.tail _ (.tail _ (.head _)))))
    intro x hx hm
    simp only [List.mem_cons, List.not_mem_nil, or_false] at hx hm
    have e4 := (N₄ (pl, listOf vs.toArray n) (.head _)).1
    have m1 : (en, encOb de ed te1 te2) ∈ [(pl, listOf vs.toArray n), (en, encOb de ed te1 te2), (ed, dictOf [] 0)] ++ keep := .tail _ (.head _)
    have m2 : (ed, dictOf [] 0) ∈ [(pl, listOf vs.toArray n), (en, encOb de ed te1 te2), (ed, dictOf [] 0)] ++ keep := .tail _ (.tail _ (.head _))
    rcases hx with rfl | rfl | rfl | rfl
    · rcases hm with rfl | rfl | rfl | rfl | rfl | rfl
      · exact absurd (e1.symm.trans o1) (by simp)
      · exact absurd (e1.symm.trans o2) (by simp)
      · exact absurd (e1.symm.trans o3) (by simp)
      · exact absurd (e1.symm.trans o4) (by simp)
      · exact absurd (e1.symm.trans o5) (by simp)
      · exact absurd (e1.symm.trans e4) (by simp)
    · rcases hm with rfl | rfl | rfl | rfl | rfl | rfl
      · exact absurd (e2.symm.trans o1) (by simp)
      · exact absurd (e2.symm.trans o2) (by simp)
      · exact absurd (e2.symm.trans o3) (by simp)
      · exact absurd (e2.symm.trans o4) (by simp)
      · exact absurd (e2.symm.trans o5) (by simp)
      · exact absurd (e2.symm.trans e4) (by simp)
    · rcases hm with rfl | rfl | rfl | rfl | rfl | rfl
      · exact g1 _ m1 rfl
      · exact g2 _ m1 rfl
      · exact g3 _ m1 rfl
      · exact g4 _ m1 rfl
      · exact g5 _ m1 rfl
      · exact h3.1 rfl
    · rcases hm with rfl | rfl | rfl | rfl | rfl | rfl
      · exact g1 _ m2 rfl
      · exact g2 _ m2 rfl
      · exact g3 _ m2 rfl
      · exact g4 _ m2 rfl
      · exact g5 _ m2 rfl
      · exact h3.2 rfl
  · intro x hx hm
    have mx : x ∈ [(pl, listOf vs.toArray n), (en, encOb de ed te1 te2), (ed, dictOf [] 0)] ++ keep := .tail _ (.tail _ (.tail _ hx))
    simp only [List.mem_cons, List.not_mem_nil, or_false] at hm
    rcases hm with e | e | e | e | e | e | e | e | e | e
    · exact fr _ (.head _) x mx e
    · exact fr _ (.tail _ (.head _)) x mx e
    · exact fr _ (.tail _ (.tail _ (.head _))) x mx e
    · exact fr _ (.tail _ (.tail _ (.tail _ (.head _)))) x mx e
    · exact fr _ (.tail _ (.tail _ (.tail _ (.tail _ (.head _))))) x mx e
    · exact h1 x hx (e ▸ .head _)
    · exact h0 x mx (e ▸ .head _)
    · exact h0 x mx (e ▸ .tail _ (.head _))
    · exact h1 x hx (e ▸ .tail _ (.head _))
    · exact h1 x hx (e ▸ .tail _ (.tail _ (.head _)))
end
section
variable {w : World} {p : Program} {loose : List Str} {mean : ExcName → Option Value} {mg mb : Str → Option Value} {dp un : Nat} {gd : Option (List Code)} {outer : List Env} {base g : Heap} {A₀ : Around} {s : Shared} {cn : Str} {cs : Scope} {L a : Addr} {ccd : Value} {cl : List (Str × Addr)} {m : Str → Option Value}
  {pl pp ct : Addr} {de : Bool}

theorem perm7 {h : Heap} {a1 a2 a3 a4 a5 a6 : Addr × Obj} {r : List (Addr × Obj)} (N : News g L h (a1 :: a2 :: a3 :: a4 :: a5 :: a6 :: r)) : News g L h ([a4, a5, a1] ++ ([a6, a2, a3] ++ r)) := News.perm N (by
  intro p hp
  simp only [List.cons_append, List.nil_append, List.mem_cons] at hp ⊢
  rcases hp with h | h | h | h | h | h | h <;> simp [h])
theorem c_connE {Q : Value → Shared → Prop} {vs : List Value} {n : Nat} {keep : List (Addr × Obj)} (B : Below A₀ base outer g) (F : Fr g L s.heap m) (X : (Mine.frag.heap_1 w.params).In g) (T : Top p loose mean mg mb g)
    (hE : ∃ en ed pd kp u te1 te2, News g L s.heap ([(pp, instObj 1077 pd), (pd, parD kp u .none .none .none), (ct, tupOb [.ref pl, .none, .ref en])] ++ ([(pl, listOf vs.toArray n), (en, encOb de ed te1 te2), (ed, dictOf [] 0)] ++ keep)) ∧
      (∀ q ∈ [(pl, listOf vs.toArray n), (en, encOb de ed te1 te2), (ed, dictOf [] 0)] ++ keep, q.1 ∉ ([pp, pd, ct] : List Addr)) ∧ (∀ q ∈ keep, q.1 ∉ ([pl, en, ed] : List Addr)) ∧ (@Ne Nat pp pd) ∧ (en ≠ pl ∧ ed ≠ pl)) (hk : cs.kind = .function) (hd : dp + 20 < recursionLimit) (hu : un + 8 * 20 < cLine)
    (h : ∀ (pp' : Addr), pp' = pp → ∀ en ed pd kp u te1 te2 h' t' k sb sd b bd ba h1 h2 t1 t2 t, Fr g L h' m → News g L h' (([(sb, instObj 934 sd), (sd, sbD k (.ref pl) 4 u .none b), (b, instObj 601 bd), (bd, bioD h1 h2 t1 t2 ba ((0 : Nat) : Int) t), (ba, baObj ([] : List UInt8).toArray), (pl, listOf (vs).toArray n)] ++ [(pp', instObj 1077 pd), (pd, parD kp u (.ref en) (.ref pl) (.ref sb)), (en, encOb de ed te1 te2), (ed, dictOf [] 0)]) ++ keep) → Apart sb sd b bd ba pl pp' pd en ed → (∀ q ∈ keep, q.1 ∉ ([sb, sd, b, bd, ba, pl, pp', pd, en, ed] : List Addr)) → Q .none { s with heap := h', toks := t' }) :
    wpC (model PySem.Challenge.rw_ez0337_01.row.prog w) (Ar dp un gd (envX cn cs L a ccd cl :: outer)) (call (.ref 1033) [.ref pp, .ref ct] []) Q s := by
  obtain ⟨en, ed, pd, kp, u, te1, te2, N, h0, h1, h2, h3⟩ := hE
  exact c_conn B F X T N h0 h1 h2 h3 hk hd hu fun h' t' k sb sd b bd ba i1 i2 t1 t2 t F' N' hA hK => h pp rfl en ed pd kp u te1 te2 h' t' k sb sd b bd ba i1 i2 t1 t2 t F' N' hA hK
end
section
variable {w : World} {p : Program} {loose : List Str} {mean : ExcName → Option Value} {mg mb : Str → Option Value} {dp un : Nat} {gd : Option (List Code)} {outer : List Env} {base g : Heap} {A₀ : Around} {s : Shared} {cn : Str} {cs : Scope} {L a : Addr} {ccd : Value} {cl : List (Str × Addr)} {m : Str → Option Value}
  {k kp : K4} {sb sd b bd ba pl pp pd en ed : Addr} {h1 h2 : Int} {t1 t2 u0 u te1 te2 : Tok} {de : Bool}

theorem c_rs_def {V : Vl} (hA : Apart sb sd b bd ba pl pp pd en ed) (hV : Wf 2 V) {Q : Value → Shared → Prop} (B : Below A₀ base outer g) (F : Fr g L s.heap m) (X : (Mine.frag.heap_1 w.params).In g) (T : Top p loose mean mg mb g) {keep : List (Addr × Obj)} {bs : List UInt8} {q : Nat} {t : Tok} {ps : List (List UInt8)} {vs : List Value} {n : Nat} {R' : List UInt8}
    (S : Strm bs q vs ps (V.wr ++ R')) (N : News g L s.heap (([(sb, instObj 934 sd), (sd, sbD k (.ref pl) 4 u0 .none b), (b, instObj 601 bd), (bd, bioD h1 h2 t1 t2 ba ((q : Nat) : Int) t), (ba, baObj (bs).toArray), (pl, listOf (vs).toArray n)] ++ [(pp, instObj 1077 pd), (pd, parD kp u (.ref en) (.ref pl) (.ref sb)), (en, encOb de ed te1 te2), (ed, dictOf [] 0)]) ++ keep)) (hap : ∀ q ∈ keep, q.1 ∉ ([sb, sd, b, bd, ba, pl, pp, pd, en, ed] : List Addr)) (hk : cs.kind = .function) (hd : dp + 32 < recursionLimit) (hu : un + 8 * 32 < cLine)
    (h : ∀ v h' t' (T2 : List (Addr × Obj)) bs' q' vs' ps' n' tq', Fr g L h' m → News g L h' (([(sb, instObj 934 sd), (sd, sbD k (.ref pl) 4 u0 .none b), (b, instObj 601 bd), (bd, bioD h1 h2 t1 t2 ba ((q' : Nat) : Int) tq'), (ba, baObj (bs').toArray), (pl, listOf (vs').toArray n')] ++ [(pp, instObj 1077 pd), (pd, parD kp u (.ref en) (.ref pl) (.ref sb)), (en, encOb de ed te1 te2), (ed, dictOf [] 0)]) ++ (T2 ++ keep)) → Got (fun a o => (a, o) ∈ T2) (!false && de) V v → Strm bs' q' vs' ps' R' → Q v { s with heap := h', toks := t' }) :
    wpC (model PySem.Challenge.rw_ez0337_01.row.prog w) (Ar dp un gd (envX cn cs L a ccd cl :: outer)) (call (.ref 1068) [.ref pp] []) Q s := by
  refine useC (rs_def w p loose mean mg mb k kp sb sd b bd ba pl pp pd en ed h1 h2 t1 t2 u0 u te1 te2 de hA V hV bs q t ps vs n R' S) B F X N T hk (keepL := keep) (fun _ q => List.mem_append_left _ q) (fun q hq => ⟨List.mem_append_right _ hq, fun hm => hap q hq hm⟩) (fun _ _ _ => trivial) hd hu ?_
  intro v₄ h₄ t₄ g₄ F₄ N₄ st₄ kp₄ st₄' post₄ bld
  obtain ⟨T2, bs', q', vs', ps', n', tq', hT2, hG, S', hall⟩ := post₄
  have N₅ := bld ([(sb, instObj 934 sd), (sd, sbD k (.ref pl) 4 u0 .none b), (b, instObj 601 bd), (bd, bioD h1 h2 t1 t2 ba ((q' : Nat) : Int) tq'), (ba, baObj (bs').toArray), (pl, listOf (vs').toArray n')] ++ [(pp, instObj 1077 pd), (pd, parD kp u (.ref en) (.ref pl) (.ref sb)), (en, encOb de ed te1 te2), (ed, dictOf [] 0)]) (fun x hx => ⟨hall x hx, .inl (by
    simp only [List.cons_append, List.nil_append, List.mem_cons, List.not_mem_nil, or_false] at hx
    rcases hx with rfl | rfl | rfl | rfl | rfl | rfl | rfl | rfl | rfl | rfl <;> k_mem)⟩)
  have N₆ := bld T2 (fun x hx => ⟨(hT2 x hx).1, .inr (hT2 x hx).2.1⟩)
  exact h v₄ h₄ t₄ T2 bs' q' vs' ps' n' tq' F₄ (News.append N₅ (News.append N₆ N₄)) hG S'
end
section
variable {w : World} {p : Program} {loose : List Str} {mean : ExcName → Option Value} {mg mb : Str → Option Value} {dp un : Nat} {gd : Option (List Code)} {outer : List Env} {base g : Heap} {A₀ : Around} {s : Shared} {cn : Str} {cs : Scope} {L a : Addr} {ccd : Value} {cl : List (Str × Addr)} {m : Str → Option Value}
  {k kp : K4} {sb sd b bd ba pl pp pd en ed : Addr} {h1 h2 : Int} {t1 t2 u0 u te1 te2 : Tok} {de : Bool}

theorem c_rs_dis {V : Vl} (hA : Apart sb sd b bd ba pl pp pd en ed) (hV : Wf 2 V) {Q : Value → Shared → Prop} (B : Below A₀ base outer g) (F : Fr g L s.heap m) (X : (Mine.frag.heap_1 w.params).In g) (T : Top p loose mean mg mb g) {keep : List (Addr × Obj)} {bs : List UInt8} {q : Nat} {t : Tok} {ps : List (List UInt8)} {vs : List Value} {n : Nat} {R' : List UInt8}
    (S : Strm bs q vs ps (V.wr ++ R')) (N : News g L s.heap (([(sb, instObj 934 sd), (sd, sbD k (.ref pl) 4 u0 .none b), (b, instObj 601 bd), (bd, bioD h1 h2 t1 t2 ba ((q : Nat) : Int) t), (ba, baObj (bs).toArray), (pl, listOf (vs).toArray n)] ++ [(pp, instObj 1077 pd), (pd, parD kp u (.ref en) (.ref pl) (.ref sb)), (en, encOb de ed te1 te2), (ed, dictOf [] 0)]) ++ keep)) (hap : ∀ q ∈ keep, q.1 ∉ ([sb, sd, b, bd, ba, pl, pp, pd, en, ed] : List Addr)) (hk : cs.kind = .function) (hd : dp + 32 < recursionLimit) (hu : un + 8 * 32 < cLine)
    (h : ∀ v h' t' (T2 : List (Addr × Obj)) bs' q' vs' ps' n' tq', Fr g L h' m → News g L h' (([(sb, instObj 934 sd), (sd, sbD k (.ref pl) 4 u0 .none b), (b, instObj 601 bd), (bd, bioD h1 h2 t1 t2 ba ((q' : Nat) : Int) tq'), (ba, baObj (bs').toArray), (pl, listOf (vs').toArray n')] ++ [(pp, instObj 1077 pd), (pd, parD kp u (.ref en) (.ref pl) (.ref sb)), (en, encOb de ed te1 te2), (ed, dictOf [] 0)]) ++ (T2 ++ keep)) → Got (fun a o => (a, o) ∈ T2) (!true && de) V v → Strm bs' q' vs' ps' R' → Q v { s with heap := h', toks := t' }) :
    wpC (model PySem.Challenge.rw_ez0337_01.row.prog w) (Ar dp un gd (envX cn cs L a ccd cl :: outer)) (call (.ref 1068) [.ref pp] [("disable_decoding", .bool true)]) Q s := by
  refine useC (rs_dis w p loose mean mg mb k kp sb sd b bd ba pl pp pd en ed h1 h2 t1 t2 u0 u te1 te2 de hA V hV bs q t ps vs n R' S) B F X N T hk (keepL := keep) (fun _ q => List.mem_append_left _ q) (fun q hq => ⟨List.mem_append_right _ hq, fun hm => hap q hq hm⟩) (fun _ _ _ => trivial) hd hu ?_
  intro v₄ h₄ t₄ g₄ F₄ N₄ st₄ kp₄ st₄' post₄ bld
  obtain ⟨T2, bs', q', vs', ps', n', tq', hT2, hG, S', hall⟩ := post₄
  have N₅ := bld ([(sb, instObj 934 sd), (sd, sbD k (.ref pl) 4 u0 .none b), (b, instObj 601 bd), (bd, bioD h1 h2 t1 t2 ba ((q' : Nat) : Int) tq'), (ba, baObj (bs').toArray), (pl, listOf (vs').toArray n')] ++ [(pp, instObj 1077 pd), (pd, parD kp u (.ref en) (.ref pl) (.ref sb)), (en, encOb de ed te1 te2), (ed, dictOf [] 0)]) (fun x hx => ⟨hall x hx, .inl (by
    simp only [List.cons_append, List.nil_append, List.mem_cons, List.not_mem_nil, or_false] at hx
    rcases hx with rfl | rfl | rfl | rfl | rfl | rfl | rfl | rfl | rfl | rfl <;> k_mem)⟩)
  have N₆ := bld T2 (fun x hx => ⟨(hT2 x hx).1, .inr (hT2 x hx).2.1⟩)
  exact h v₄ h₄ t₄ T2 bs' q' vs' ps' n' tq' F₄ (News.append N₅ (News.append N₆ N₄)) hG S'
end
theorem allLt_lt {d : Addr} : ∀ {l : List (Addr × Obj)}, AllLt d l → ∀ p ∈ l, @LT.lt Nat _ p.1 d
  | [], _, _, h => nomatch h
  | _ :: _, x, p, h => by
    rcases List.mem_cons.mp h with rfl | h
    · exact x.1
    · exact allLt_lt x.2 p h
end Mine
end EzLaw0
section EzMk
open PySem PySem.W PyProof.Rows PySem.Calls
namespace Mine
set_option maxRecDepth 100000
set_option maxHeartbeats 1000000
local macro_rules | `(tactic| k_in) => `(tactic| first | k_in_fast | exact Frag.In.keeps (by k_asm) (Fr.keep (by k_asm)))
local macro_rules | `(tactic| k_room) => `(tactic| ktr_room)
local macro_rules | `(tactic| k_units) => `(tactic| ktr_units)
local macro_rules | `(tactic| k_fill) => `(tactic| (k_with_none))
theorem encinit_does (w : World) (p : Program) (loose : List Str) (mean : ExcName → Option Value) (mg mb : Str → Option Value) (x dx : Addr) (hx : @Ne Nat x dx) (t1 t2 : Tok) (de : Bool) :
    Does (Mine.frag.heap_1 w.params) PySem.Challenge.rw_ez0337_01.row.prog w p loose mean mg mb 6 1094 [.ref x, .str "utf-8" t1, .str "strict" t2, .bool de] [] [(x, instObj 1113 dx), (dx, dictOf [] 0)] (fun _ => True) (fun _ v h' => v = .none ∧ h'.get? x = some (encOb de dx t1 t2) ∧ h'.get? dx = some (dictOf [] 0)) := by
  k_fill
  intro dp un gd outer base g A₀ s R B st X T hW hsz hPre hd hu kont
  refine' enter st X T hW hsz ?ho ?hcd ?hroom ?hbind ?hloc ?_ ?c2 ?c3 ?c4 ?c5
  case ho => k_is
  case hcd => k_is
  case hroom => omega
  case hbind => first | exact BindsTo.of_eq rfl | exact binds_K (X.keeps fun b o e => st b o e) rfl (by k_is) rfl rfl rfl
  case hloc => exact locs rfl
  case c2 => rfl
  case c3 => rfl
  case c4 => rfl
  case c5 => decide
  intro L' h₁ F N hlt
  (try k_lt hlt)
  dsimp only
  k_steps
  all_goals (try dsimp only)
  rename News g L' _ _ => kN7
  exact kont _ _ _ (Fr.keep (by assumption)) ⟨rfl, kN7.get (by k_mem), kN7.get (by k_mem)⟩

theorem parinit_does (w : World) (p : Program) (loose : List Str) (mean : ExcName → Option Value) (mg mb : Str → Option Value) (x dx : Addr) (hx : @Ne Nat x dx) (u : Tok) :
    Does (Mine.frag.heap_1 w.params) PySem.Challenge.rw_ez0337_01.row.prog w p loose mean mg mb 6 1026 [.ref x, .int 4 u] [] [(x, instObj 1077 dx), (dx, dictOf [] 0)] (fun _ => True) (fun _ v h' => v = .none ∧ ∃ k, h'.get? x = some (instObj 1077 dx) ∧ h'.get? dx = some (parD k u .none .none .none)) := by
  k_fill
  intro dp un gd outer base g A₀ s R B st X T hW hsz hPre hd hu kont
  refine' enter st X T hW hsz ?ho ?hcd ?hroom ?hbind ?hloc ?_ ?c2 ?c3 ?c4 ?c5
  case ho => k_is
  case hcd => k_is
  case hroom => omega
  case hbind => first | exact BindsTo.of_eq rfl | exact binds_K (X.keeps fun b o e => st b o e) rfl (by k_is) rfl rfl rfl
  case hloc => exact locs rfl
  case c2 => rfl
  case c3 => rfl
  case c4 => rfl
  case c5 => decide
  intro L' h₁ F N hlt
  (try k_lt hlt)
  dsimp only
  k_steps
  all_goals (try dsimp only)
  rename News g L' _ _ => kN7
  exact kont _ _ _ (Fr.keep (by assumption)) ⟨rfl, ⟨_, _, _, _, _, _, _, _⟩, kN7.get (by k_mem), kN7.get (by k_mem)⟩

section
variable {w : World} {p : Program} {loose : List PySem.Str} {mean : ExcName → Option Value} {mg mb : PySem.Str → Option Value}
variable {A₀ : Around} {base g : Heap} {outer : List Env} {s : Shared} {L a : Addr} {m : PySem.Str → Option Value} {cn : PySem.Str} {cs : Scope} {ccd : Value} {cl : List (PySem.Str × Addr)} {dp un : Nat} {gd : Option (List Code)} {news : List (Addr × Obj)}

theorem enc_make {Q E : Value → Shared → Prop} {t1 t2 : Tok} {de : Bool} (B : Below A₀ base outer g) (F : Fr g L s.heap m) (X : (Mine.frag.heap_1 w.params).In g) (T : Top p loose mean mg mb g) (N : News g L s.heap news) (hk : cs.kind = .function) (hd : dp + 8 < recursionLimit) (hu : un + 8 * 8 < cLine)
    (h : ∀ x dx h' t', Fr g L h' m → News g L h' ((x, encOb de dx t1 t2) :: (dx, dictOf [] 0) :: news) → AllLt dx news → @LT.lt Nat _ dx x → Q (.ref x) { s with heap := h', toks := t' }) :
    wpAny (model PySem.Challenge.rw_ez0337_01.row.prog w) (Ar dp un gd (envX cn cs L a ccd cl :: outer)) (call (.ref 1113) [.str "utf-8" t1, .str "strict" t2, .bool de] []) Q E s := by
  revert X
  k_fill
  intro X
  have KX := X.keeps F.keep
  refine wpAny_call (make_K (fI := 1094) F N KX (by k_is) (by k_is) (by k_is) ?_)
  intro x dx h' F' N' l1 l2
  rw [ar_type_call]
  have hlt : ∀ q ∈ news, @Ne Nat q.1 x ∧ @Ne Nat q.1 dx := fun q hq => by
    have h1 : @LT.lt Nat _ q.1 dx := l1 q hq
    have h2 : @LT.lt Nat _ dx x := l2
    exact ⟨by omega, by omega⟩
  have hne : @Ne Nat x dx := by have h2 : @LT.lt Nat _ dx x := l2; omega
  refine Exists.elim (use_parts (dp := dp + 1) (un := un + 1) (gd := gd) (cn := cn) (a := a) (ccd := ccd) (cl := cl) (Pre := fun _ => True) (s := { s with heap := h' }) (Post := fun _ v h' => v = .none ∧ h'.get? x = some (encOb de dx t1 t2) ∧ h'.get? dx = some (dictOf [] 0)) (Q := fun v s' => InitBack x (fun r s' => match r with
      | .ok (.ret v) => Q v s'
      | .ok _ => False
      | .error e => E e s') (.ok (.ret v)) s') B F' X N' T hk (keepL := news) (W := [(x, instObj 1113 dx), (dx, dictOf [] 0)]) (all2 (by k_mem) (by k_mem)) (fun q hq => ⟨List.mem_cons_of_mem _ (List.mem_cons_of_mem _ hq), ?off⟩) (fun _ _ _ => trivial) ?k) ?fin
  case off =>
    have z := hlt q hq
    intro hm
    simp only [List.map_cons, List.map_nil, List.mem_cons, List.not_mem_nil, or_false] at hm
    exact hm.elim z.1 z.2
  case k =>
    intro v₄ h₄ t₄ g₄ F₄ N₄ st₄ kp₄ st₄' post₄ bld
    obtain ⟨rfl, e1, e2⟩ := post₄
    refine ⟨rfl, ?_⟩
    exact h x dx h₄ t₄ F₄ (News.append (bld [(x, encOb de dx t1 t2), (dx, dictOf [] 0)] (all2 ⟨e1, .inl (.head _)⟩ ⟨e2, .inl (.tail _ (.head _))⟩)) N₄) (allLt_of l1) l2
  rintro g₁ ⟨BG, st, XG, TG, hWG, hsz, _, kk⟩
  exact (encinit_does w p loose mean mg mb x dx hne t1 t2 de) (dp + 1) (un + 1) gd _ base g₁ _ _ _ BG st XG TG hWG hsz trivial (by omega) (by omega) kk

theorem par_make {Q E : Value → Shared → Prop} {u : Tok} (B : Below A₀ base outer g) (F : Fr g L s.heap m) (X : (Mine.frag.heap_1 w.params).In g) (T : Top p loose mean mg mb g) (N : News g L s.heap news) (hk : cs.kind = .function) (hd : dp + 8 < recursionLimit) (hu : un + 8 * 8 < cLine)
    (h : ∀ x dx k h' t', Fr g L h' m → News g L h' ((x, instObj 1077 dx) :: (dx, parD k u .none .none .none) :: news) → AllLt dx news → @LT.lt Nat _ dx x → Q (.ref x) { s with heap := h', toks := t' }) :
    wpAny (model PySem.Challenge.rw_ez0337_01.row.prog w) (Ar dp un gd (envX cn cs L a ccd cl :: outer)) (call (.ref 1077) [.int 4 u] []) Q E s := by
  revert X
  k_fill
  intro X
  have KX := X.keeps F.keep
  refine wpAny_call (make_K (fI := 1026) F N KX (by k_is) (by k_is) (by k_is) ?_)
  intro x dx h' F' N' l1 l2
  rw [ar_type_call]
  have hlt : ∀ q ∈ news, @Ne Nat q.1 x ∧ @Ne Nat q.1 dx := fun q hq => by
    have h1 : @LT.lt Nat _ q.1 dx := l1 q hq
    have h2 : @LT.lt Nat _ dx x := l2
    exact ⟨by omega, by omega⟩
  have hne : @Ne Nat x dx := by have h2 : @LT.lt Nat _ dx x := l2; omega
  refine Exists.elim (use_parts (dp := dp + 1) (un := un + 1) (gd := gd) (cn := cn) (a := a) (ccd := ccd) (cl := cl) (Pre := fun _ => True) (s := { s with heap := h' }) (Post := fun _ v h' => v = .none ∧ ∃ k, h'.get? x = some (instObj 1077 dx) ∧ h'.get? dx = some (parD k u .none .none .none)) (Q := fun v s' => InitBack x (fun r s' => match r with
      | .ok (.ret v) => Q v s'
      | .ok _ => False
      | .error e => E e s') (.ok (.ret v)) s') B F' X N' T hk (keepL := news) (W := [(x, instObj 1077 dx), (dx, dictOf [] 0)]) (all2 (by k_mem) (by k_mem)) (fun q hq => ⟨List.mem_cons_of_mem _ (List.mem_cons_of_mem _ hq), ?off⟩) (fun _ _ _ => trivial) ?k) ?fin
  case off =>
    have z := hlt q hq
    intro hm
    simp only [List.map_cons, List.map_nil, List.mem_cons, List.not_mem_nil, or_false] at hm
    exact hm.elim z.1 z.2
  case k =>
    intro v₄ h₄ t₄ g₄ F₄ N₄ st₄ kp₄ st₄' post₄ bld
    obtain ⟨rfl, k, e1, e2⟩ := post₄
    refine ⟨rfl, ?_⟩
    exact h x dx k h₄ t₄ F₄ (News.append (bld [(x, instObj 1077 dx), (dx, parD k u .none .none .none)] (all2 ⟨e1, .inl (.head _)⟩ ⟨e2, .inl (.tail _ (.head _))⟩)) N₄) (allLt_of l1) l2
  rintro g₁ ⟨BG, st, XG, TG, hWG, hsz, _, kk⟩
  exact (parinit_does w p loose mean mg mb x dx hne u) (dp + 1) (un + 1) gd _ base g₁ _ _ _ BG st XG TG hWG hsz trivial (by omega) (by omega) kk
end
end Mine
end EzMk
section EzLaw
open PySem PySem.W PyProof.Rows PySem.Calls
namespace Mine
set_option maxRecDepth 100000
set_option maxHeartbeats 1000000
local macro_rules | `(tactic| k_in) => `(tactic| first | k_in_fast | exact Frag.In.keeps (by k_asm) (Fr.keep (by k_asm)))
local macro_rules | `(tactic| k_room) => `(tactic| ktr_room)
local macro_rules | `(tactic| k_units) => `(tactic| ktr_units)
local macro_rules | `(tactic| k_upd) => `(tactic| (refine Upd.head ?_; assumption))
local macro_rules | `(tactic| size_fits) => `(tactic| assumption)
local macro_rules | `(tactic| k_fill) => `(tactic| (k_with_none; (k_with "eval Name" => (k_here; k_dflt (first | (refine' nameX_K ?F ?X ?T ?e ?_ ?a ?b ?c; (case F => k_asm); (case X => k_asm); (case T => k_asm); (case e => k_is); (case a => kernel_rfl); (case b => kernel_rfl); (case c => kernel_rfl); k_whole) | (refine' nameX_C ?N ?h ?m ?d ?_ ?a ?b ?c; (case h => rfl); (case N => k_asm); (case m => k_mem); (case d => k_asm); (case a => kernel_rfl); (case b => kernel_rfl); (case c => kernel_rfl); k_whole) | (refine' nameX_L ?F ?v ?_ ?a ?b ?c; (case F => k_asm); (case v => rfl); (case a => kernel_rfl); (case b => kernel_rfl); (case c => kernel_rfl); k_whole) | (refine' nameX_B ?F ?X ?T ?e ?v ?n ?_ ?a ?b ?c; (case F => k_asm); (case X => k_asm); (case T => k_asm); (case e => k_is); (case v => boot_fast); (case n => decide); (case a => kernel_rfl); (case b => kernel_rfl); (case c => kernel_rfl); k_whole)))); (k_with "ite" => (k_closed; first | (refine ite_pos ?h ?_; (case h => k_dflt (decide +kernel))) | (refine ite_neg ?h ?_; (case h => k_dflt (decide +kernel))))); (k_with "eval Call" => (k_here; (with_reducible show wpAny _ _ (eval (Expr.Call (Expr.Name _ _) _ [] _) _) _ _ _); k_dflt (refine Call_ ?_))); (k_with "call ref" => (k_here; (first | (with_reducible show wpAny _ _ (call (Value.ref 1125) _ _) _ _ _) | (with_reducible show wpAny _ _ (call (Value.ref (nat_lit 1125)) _ _) _ _ _)); k_dflt (refine' c_at ?B ?F ?X ?T ?N ?hl ?hi ?hn ?hk ?h0 ?h1 ?hd ?hu ?_; (case B => k_asm); (case F => k_asm); (case X => k_asm); (case T => k_asm); (case N => k_asm); (case hl => assumption); (case hi => assumption); (case hn => assumption); (case hk => rfl); (case h0 => omega); (case h1 => omega); (case hd => first | omega | (dsimp only [Ar, Around.deeper]; omega)); (case hu => first | omega | (dsimp only [Ar, Around.deeper]; omega)); k_whole); intro h' t' z' tz' F' N'; (try k_sweep))); (k_with "getMethod bytes" => (k_here; (with_reducible refine by_ends_method ?_))); (k_with "call builtin:bytes.endswith" => (k_here; refine by_ends ?_)); (k_with "binaryOp Add bytes bytes" => (k_here; (with_reducible show wpAny _ _ (binaryOp Operator.Add (Value.bytes _ _) (Value.bytes _ _)) _ _ _); (refine by_add (by first | omega | (simp only [List.length_append]; omega)) ?_); intro _ _)); (k_with "inplaceOp Add bytes bytes" => (k_here; (refine by_iadd (by first | omega | (simp only [List.length_append]; omega)) ?_); intro _ _)); (k_with "subscriptTail" => (k_here; (with_reducible show wpAny _ _ (subscriptTail _ _ (Value.bytes _ _) (Value.ref _)) _ _ _); k_dflt (refine' by_slice (s := ⟨_, _, _, _, _⟩) ?k1 ?k2 ?k3 ?k4 ?k5 ?_ ?k6 ?k7; (case k1 => k_asm); (case k2 => k_asm); (case k3 => constructor); (case k4 => constructor); (case k5 => first | omega | (simp only [List.length_append, List.length_cons, List.length_nil]; omega)); (case k6 => with_unfolding_all rfl); (case k7 => intro _; with_unfolding_all rfl); k_whole); intro h' t' tk' F' N'; (try k_sweep))); (k_with "call builtin:len" => (k_here; (with_reducible show wpAny _ _ (call (Value.builtin "len") [Value.bytes (List.toArray _) _]) _ _ _); (refine by_len (by first | omega | (simp only [List.length_append]; omega)) ?_); intro _ _)); (k_with "call builtin:len" => (k_here; (with_reducible show wpAny _ _ (call (Value.builtin "len") [Value.ref _]) _ _ _); k_dflt (refine' len_led ?N ?hm ?hl ?_; (case N => k_asm); (case hm => k_mem); (case hl => omega); k_whole); intro _ _)); (k_with "call ref" => (k_here; (first | (with_reducible show wpAny _ _ (call (Value.ref 1113) _ _) _ _ _) | (with_reducible show wpAny _ _ (call (Value.ref (nat_lit 1113)) _ _) _ _ _)); k_dflt (refine' enc_make ?B ?F ?X ?T ?N ?hk ?hd ?hu ?_; (case B => k_asm); (case F => k_asm); (case X => k_asm); (case T => k_asm); (case N => k_asm); (case hk => rfl); (case hd => first | omega | (dsimp only [Ar, Around.deeper]; omega)); (case hu => first | omega | (dsimp only [Ar, Around.deeper]; omega)); k_whole); intro x' d' h' t' F' N' l1 l2; (try simp only [AllLt, and_true] at l1); (try k_sweep))); (k_with "call ref" => (k_here; (first | (with_reducible show wpAny _ _ (call (Value.ref 1077) _ _) _ _ _) | (with_reducible show wpAny _ _ (call (Value.ref (nat_lit 1077)) _ _) _ _ _)); k_dflt (refine' par_make ?B ?F ?X ?T ?N ?hk ?hd ?hu ?_; (case B => k_asm); (case F => k_asm); (case X => k_asm); (case T => k_asm); (case N => k_asm); (case hk => rfl); (case hd => first | omega | (dsimp only [Ar, Around.deeper]; omega)); (case hu => first | omega | (dsimp only [Ar, Around.deeper]; omega)); k_whole); intro x' d' k' h' t' F' N' l1 l2; (try simp only [AllLt, and_true] at l1); (try k_sweep)))))
theorem law_does (w : World) (p : Program) (loose : List Str) (mean : ExcName → Option Value) (mg mb : Str → Option Value) (l : Addr) (vs : List Value) (ns : List Int) (hi2 : IntsAre vs ns) (hlen : ns.length ≤ 63) :
    DoesC (Mine.frag.heap_1 w.params) PySem.Challenge.rw_ez0337_01.row.prog w p loose mean mg mb 36 1153 [.ref l] [] [] (fun g => g.IsList l vs.toArray) (fun _ v _ => v = .bool true) := by
  k_fill
  intro dp un gd outer base g A₀ s R B st X T hW hsz hPre hd hu kont
  refine' enterC (binds := [("script", .ref l)]) st X T hW hsz ?ho ?hcd ?hroom ?hbind ?hloc ?_ ?c2 ?c3 ?c4 ?c5
  case ho => k_is
  case hcd => k_is
  case hroom => omega
  case hbind => exact BindsTo.of_eq rfl
  case hloc => exact locs rfl
  case c2 => rfl
  case c3 => rfl
  case c4 => rfl
  case c5 => decide
  intro L' h₁ F N hlt
  replace F : Fr g L' h₁ (fun y => List.lookup y [("script", .ref l)]) := F
  refine C_consK ?_
  k_steps
  all_goals (try dsimp only)
  refine C_consK ?_
  k_steps
  all_goals (try dsimp only)
  rename Fr g L' _ _ => kF
  rename News g L' _ _ => kN
  obtain ⟨D, pt, kF2, kN2⟩ : ∃ D pt, Fr g L' _ (fun y => if y = "place" then some (.int 2 pt) else if y = "values" then some (.ref D) else List.lookup y [("script", .ref l)]) ∧ News g L' _ [(D, listOf #[] 0)] := ⟨_, _, kF, kN⟩
  clear kF kN
  refine C_cons (C_For_rangeB (h₀ := g) (L := L') rfl rfl rfl rfl ?hA)
  iterate 21 (first | walk1 | (dsimp only; walk1))
  rename Fr g L' _ _ => kF
  rename News g L' _ _ => kN
  (try clear kF2)
  (try clear kN2)
  refine range1_rows kF kN ?_
  intro h₆ t₆ ta tb tc hr F₆ N₆ _
  clear kF kN
  obtain ⟨nm, hn1, hn4, hr'⟩ := rng_out hr
  refine ⟨nm, fun i m news => ∃ (pl : Int) (tp : Tok) (tv ov : Option Value) (ys : List Value) (Vs : List Vl) (T : List (Addr × Obj)) (c : Nat), (m = fun (y : PySem.Str) => if y = "turn" then tv else if y = "one" then ov else if y = "place" then some (.int pl tp) else if y = "values" then some (.ref D) else List.lookup y [("script", .ref l)]) ∧ news = (D, listOf (List.toArray ys) c) :: T ∧ (∀ p ∈ T, p.1 ≠ D) ∧ ys.length = i ∧ Lays (fun a o => (a, o) ∈ T) Vs ys ∧ (∀ V ∈ Vs, Wf 2 V) ∧ Vs.length = i ∧ 2 ≤ pl ∧ pl ≤ 2 + i * 26, _, ta, tb, tc, _, _, rfl, F₆, N₆, hr', (range_small hn4).1, (range_small hn4).2, ?J0, ?turn, ?fin⟩
  case J0 =>
    refine ⟨2, pt, none, none, [], [], [], 0, ?_, rfl, (fun _ h => nomatch h), rfl, (by unfold Lays; trivial), (fun _ h => nomatch h), rfl, by omega, by omega⟩
    funext y
    by_cases e0 : y = "turn"
    · subst e0; with_unfolding_all rfl
    by_cases e1 : y = "one"
    · subst e1; with_unfolding_all rfl
    by_cases e2 : y = "place"
    · subst e2; with_unfolding_all rfl
    by_cases e3 : y = "values"
    · subst e3; with_unfolding_all rfl
    simp only [e0, e1, e2, e3, if_false]
  case turn =>
    rintro i m news v I oI h tk hi ⟨tt, rfl⟩ hJ F N off
    obtain ⟨pl, tp, tv, ov, ys, Vs, T', c, rfl, rfl, hoff, hyl, hL, hW, hVl, hp1, hp2⟩ := hJ
    have offm := off1_mem off
    have hDI : @Ne Nat D I := offm _ (.head _)
    (try dsimp only at N)
    refine C_cons (C_Assign_Tuple (C_Call_Name ?_))
    k_steps
    refine C_callK (K := Mine.frag.heap_1 w.params) ?kK ?_
    case kK => k_is
    k_steps
    rename Fr g L' _ _ => kF
    rename News g L' _ _ => kN
    (try dsimp only [List.cons_append, List.nil_append])
    refine' c_lv (lv_all w p loose mean mg mb l vs ns hi2 hlen 2 (Nat.le_refl 2)) B kF X T kN hPre rfl rfl ?h0 ?h1 ?hd ?hu ?_
    case h0 => omega
    case h1 => show pl + ((26 : Nat) : Int) < 1000; omega
    case hd => show dp + 1 + 8 < recursionLimit; omega
    case hu => show un + 3 + 8 * 8 < cLine; omega
    intro h₇ t₇ V T2 tup a pl' t1 F₇ N₇ hap7 hL7 hW7 hq1 hq2
    replace hq2 : pl' ≤ pl + 26 := hq2
    clear kF kN
    have hUp : ∀ p ∈ (I, oI) :: (tup, tupOb [.ref a, .int pl' t1]) :: (T2 ++ T'), p.1 ≠ D := by
      intro p hp
      rcases List.mem_cons.mp hp with rfl | hp
      · exact Ne.symm hDI
      · rcases List.mem_cons.mp hp with rfl | hp
        · exact hap7 _ (.head _) (D, listOf (List.toArray ys) c) (.tail _ (.head _))
        · exact (List.mem_append.mp hp).elim (fun h => hap7 _ (.tail _ h) (D, listOf (List.toArray ys) c) (.tail _ (.head _))) (hoff p)
    have hoI : ∀ p ∈ (tup, tupOb [.ref a, .int pl' t1]) :: (T2 ++ T'), p.1 ≠ I := by
      intro p hp
      rcases List.mem_cons.mp hp with rfl | hp
      · exact hap7 _ (.head _) (I, oI) (.head _)
      · exact (List.mem_append.mp hp).elim (fun h => hap7 _ (.tail _ h) (I, oI) (.head _)) (fun h => offm p (.tail _ h))
    have N₈ : News g L' h₇ ((D, listOf (List.toArray ys) c) :: (I, oI) :: (tup, tupOb [.ref a, .int pl' t1]) :: (T2 ++ T')) := News.perm N₇ (by
      intro p hp
      simp only [List.mem_cons, List.mem_append] at hp ⊢
      rcases hp with h | h | h | h | h <;> simp [h])
    clear N₇ hap7
    have hys : (List.toArray ys).size ≤ sizeLine := by
      rw [List.size_toArray, sizeLine_eq]; omega
    (try dsimp only)
    k_steps
    all_goals (try dsimp only)
    refine C_consK ?_
    k_steps
    all_goals (try dsimp only)
    refine C_cons (C_If ?_)
    k_steps
    all_goals (try dsimp only)
    all_goals (rename Fr g L' _ _ => kF)
    all_goals (rename News g L' _ _ => kN)
    all_goals (rw [List.push_toArray] at kN)
    all_goals (have hJ' : (fun i m news => ∃ (pl : Int) (tp : Tok) (tv ov : Option Value) (ys : List Value) (Vs : List Vl) (T : List (Addr × Obj)) (c : Nat), (m = fun (y : PySem.Str) => if y = "turn" then tv else if y = "one" then ov else if y = "place" then some (.int pl tp) else if y = "values" then some (.ref D) else List.lookup y [("script", .ref l)]) ∧ news = (D, listOf (List.toArray ys) c) :: T ∧ (∀ p ∈ T, p.1 ≠ D) ∧ ys.length = i ∧ Lays (fun a o => (a, o) ∈ T) Vs ys ∧ (∀ V ∈ Vs, Wf 2 V) ∧ Vs.length = i ∧ 2 ≤ pl ∧ pl ≤ 2 + i * 26) (i + 1) (fun (y : PySem.Str) => if y = "turn" then some (.int ((i : Nat) : Int) tt) else if y = "one" then some (.ref a) else if y = "place" then some (.int pl' t1) else if y = "values" then some (.ref D) else List.lookup y [("script", .ref l)]) ((D, listOf (List.toArray (ys ++ [.ref a])) (c + 1)) :: (tup, tupOb [.ref a, .int pl' t1]) :: (T2 ++ T')) :=
      ⟨pl', t1, some (.int ((i : Nat) : Int) tt), some (.ref a), ys ++ [.ref a], Vs ++ [V], (tup, tupOb [.ref a, .int pl' t1]) :: (T2 ++ T'), c + 1, rfl, rfl, fun p hp => hUp p (.tail _ hp),
        by rw [List.length_append, List.length_singleton, hyl], Lays.snoc (Lays.mono (fun _ _ hm => .tail _ (List.mem_append_right _ hm)) hL) (Lay.mono (fun _ _ hm => .tail _ (List.mem_append_left _ hm)) hL7),
        fun W hm => (List.mem_append.mp hm).elim (hW W) (fun h => by rw [List.mem_singleton.mp h]; exact hW7), by rw [List.length_append, List.length_singleton, hVl], by omega, by omega⟩)
    all_goals (have kF2 := Fr.cast (m' := fun (y : PySem.Str) => if y = "turn" then some (.int ((i : Nat) : Int) tt) else if y = "one" then some (.ref a) else if y = "place" then some (.int pl' t1) else if y = "values" then some (.ref D) else List.lookup y [("script", .ref l)]) kF (by
      funext y
      by_cases e0 : y = "turn"
      · subst e0; with_unfolding_all rfl
      by_cases e1 : y = "one"
      · subst e1; with_unfolding_all rfl
      by_cases e2 : y = "place"
      · subst e2; with_unfolding_all rfl
      by_cases e3 : y = "values"
      · subst e3; with_unfolding_all rfl
      simp only [e0, e1, e2, e3, if_false]
))
    all_goals (have kN2 : News g L' _ ((I, oI) :: (D, listOf (List.toArray (ys ++ [.ref a])) (c + 1)) :: (tup, tupOb [.ref a, .int pl' t1]) :: (T2 ++ T')) := News.perm kN (by
      intro p hp
      simp only [List.mem_cons, List.mem_append] at hp ⊢
      rcases hp with h | h | h | h | h <;> simp [h]))
    all_goals (have kO : LCg.Off1 I ((D, listOf (List.toArray (ys ++ [.ref a])) (c + 1)) :: (tup, tupOb [.ref a, .int pl' t1]) :: (T2 ++ T')) := off1_of (fun p hp => by
        rcases List.mem_cons.mp hp with rfl | hp
        · exact hDI
        · exact hoI p hp))
    · refine C_consK ?_
      k_steps
      all_goals (try dsimp only)
      exact ⟨_, _, _, _, rfl, kF2, kN2, kO, hJ'⟩
    · refine C_nil ?_
      (try dsimp only)
      refine C_nil ?_
      (try dsimp only)
      exact ⟨_, _, _, _, rfl, kF2, kN2, kO, hJ'⟩
  case fin =>
    intro i m h tk news hi hJ F N
    obtain ⟨pl, tp, tv, ov, ys, Vs, T', c, rfl, rfl, hoff, hyl, hL, hW, hVl, hp1, hp2⟩ := hJ
    have hV3 : Vs.length ≤ 3 := by omega
    clear hi hp1 hp2 hn1 hn4
    have hyV : ys.length = Vs.length := by omega
    have hWb := wrs_bound Vs hW
    refine C_consK ?_
    k_steps
    all_goals (try dsimp only)
    rename Fr g L' _ _ => kF
    rename News g L' _ _ => kN
    obtain ⟨tt0, kF2⟩ : ∃ tt0, Fr g L' _ (fun (y : PySem.Str) => if y = "octets" then some (.bytes (List.toArray []) tt0) else if y = "turn" then tv else if y = "one" then ov else if y = "place" then some (.int pl tp) else if y = "values" then some (.ref D) else List.lookup y [("script", .ref l)]) := ⟨_, kF⟩
    clear kF
    refine C_cons (C_For_list (h₀ := g) (L := L') D (List.toArray ys) (fun i m news => ∃ (tt : Tok) (bb : List UInt8) (ov2 : Option Value), (m = fun (y : PySem.Str) => if y = "one" then ov2 else if y = "octets" then some (.bytes (List.toArray bb) tt) else if y = "turn" then tv else if y = "one" then ov else if y = "place" then some (.int pl tp) else if y = "values" then some (.ref D) else List.lookup y [("script", .ref l)]) ∧ news = (D, listOf (List.toArray ys) c) :: T' ∧ bb = wrs (Vs.take i)) rfl rfl rfl rfl ?hB ?hJS)
    case hJS =>
      rintro _ _ _ ⟨_, _, _, _, rfl, _⟩
      exact .inr ⟨_, .head _, rfl, _, rfl⟩
    iterate 1 (first | walk1 | (dsimp only; walk1))
    refine ⟨_, _, rfl, kF2, kN, ?J0, ?turn, ?fin⟩
    case J0 =>
      refine ⟨tt0, [], ov, ?_, rfl, by rw [List.take_zero]; rfl⟩
      funext y
      by_cases e0 : y = "one"
      · subst e0; with_unfolding_all rfl
      by_cases e1 : y = "octets"
      · subst e1; with_unfolding_all rfl
      by_cases e2 : y = "turn"
      · subst e2; with_unfolding_all rfl
      by_cases e3 : y = "place"
      · subst e3; with_unfolding_all rfl
      by_cases e4 : y = "values"
      · subst e4; with_unfolding_all rfl
      simp only [e0, e1, e2, e3, e4, if_false]
    case turn =>
      rintro i m news v I oI h tk hi hP ⟨tt, bb, ov2, rfl, rfl, hbe⟩ F N off
      have hP' : ys[i]? = some v := by simpa using hP
      obtain ⟨V, hV, hLV⟩ := Lays.get hL hP'
      have hwa := wrs_at hW hV3 hV
      have hbl : bb.length + V.wr.length ≤ 4000 := by rw [hbe]; omega
      refine C_cons (C_Assign_Name (C_BinOp ?_))
      k_steps
      refine C_Call_Name ?_
      k_steps
      refine C_callK (K := Mine.frag.heap_1 w.params) ?kK ?_
      case kK => k_is
      k_steps
      rename Fr g L' _ _ => kF
      rename News g L' _ _ => kN
      (try dsimp only [List.cons_append, List.nil_append])
      refine' c_lw (lw_all w p loose mean mg mb 2 V (hW V (List.mem_of_getElem? hV)) (Nat.le_refl 2)) B kF X T kN (fun _ _ e => .inr (.tail _ (.tail _ e))) hLV rfl ?hd ?hu ?_
      case hd => show dp + 1 + 8 < recursionLimit; omega
      case hu => show un + 3 + 8 * 8 < cLine; omega
      intro h₇ t₇ tz F₇ N₇
      clear kF kN
      (try dsimp only)
      k_steps
      all_goals (try dsimp only)
      refine C_nil ?_
      (try dsimp only)
      rename Fr g L' _ _ => kF
      rename News g L' _ _ => kN
      obtain ⟨tb, kF3⟩ : ∃ tb, Fr g L' _ (fun (y : PySem.Str) => if y = "octets" then some (.bytes (List.toArray (bb ++ V.wr)) tb) else if y = "one" then some v else if y = "one" then ov2 else if y = "octets" then some (.bytes (List.toArray bb) tt) else if y = "turn" then tv else if y = "one" then ov else if y = "place" then some (.int pl tp) else if y = "values" then some (.ref D) else List.lookup y [("script", .ref l)]) := ⟨_, kF⟩
      refine ⟨_, _, _, (D, listOf (List.toArray ys) c) :: T', rfl, kF3, kN, off, tb, bb ++ V.wr, some v, ?_, rfl, ?_⟩
      rotate_left
      · rw [hbe, wrs_take hV]
      · funext y
        by_cases e0 : y = "one"
        · subst e0; with_unfolding_all rfl
        by_cases e1 : y = "octets"
        · subst e1; with_unfolding_all rfl
        by_cases e2 : y = "turn"
        · subst e2; with_unfolding_all rfl
        by_cases e3 : y = "place"
        · subst e3; with_unfolding_all rfl
        by_cases e4 : y = "values"
        · subst e4; with_unfolding_all rfl
        simp only [e0, e1, e2, e3, e4, if_false]
    case fin =>
      rintro m h tk news ⟨tt, bb, ov2, rfl, rfl, hbe⟩ F N
      have htk : Vs.take (List.toArray ys).size = Vs := List.take_of_length_le (by rw [List.size_toArray]; omega)
      rw [htk] at hbe
      have hbl : bb.length ≤ 2000 := by
        have : Vs.length * 640 ≤ 3 * 640 := Nat.mul_le_mul_right _ hV3
        rw [hbe]; omega
      (try dsimp only)
      refine C_consK ?_
      k_steps
      all_goals (try dsimp only)
      rename Fr g L' _ _ => kF
      rename News g L' _ _ => kN
      obtain ⟨P, kF2, kN2, hl1⟩ : ∃ P, Fr g L' _ (fun (y : PySem.Str) => if y = "parts" then some (.ref P) else if y = "one" then ov2 else if y = "octets" then some (.bytes (List.toArray bb) tt) else if y = "turn" then tv else if y = "one" then ov else if y = "place" then some (.int pl tp) else if y = "values" then some (.ref D) else List.lookup y [("script", .ref l)]) ∧ News g L' _ ((P, listOf #[] 0) :: (D, listOf (List.toArray ys) c) :: T') ∧ (@LT.lt Nat _ D P ∧ AllLt P T') := ⟨_, kF, kN, by assumption⟩
      clear kF kN
      have hPo : ∀ p ∈ (D, listOf (List.toArray ys) c) :: T', p.1 ≠ P := by
        intro p hp
        rcases List.mem_cons.mp hp with rfl | hp
        · exact Nat.ne_of_lt hl1.1
        · exact allLt_mem hl1.2 p hp
      refine C_cons (C_While2 (fun (k : Nat) (s' : Shared) => ∃ (b2 : List UInt8) (t2 : Tok) (pv : List Value) (ps : List (List UInt8)) (np : Nat) (wv : Option Value) (h' : Heap) (tk : Nat), s' = ⟨h', s.gens, s.drawn, tk, s.os⟩ ∧ k = b2.length ∧ ps.flatten ++ b2 = bb ∧ PartsV pv ps ∧ Fr g L' h' (fun (y : PySem.Str) => if y = "wide" then wv else if y = "octets" then some (.bytes (List.toArray b2) t2) else if y = "parts" then some (.ref P) else if y = "one" then ov2 else if y = "octets" then some (.bytes (List.toArray bb) tt) else if y = "turn" then tv else if y = "one" then ov else if y = "place" then some (.int pl tp) else if y = "values" then some (.ref D) else List.lookup y [("script", .ref l)]) ∧ News g L' h' ((P, listOf (List.toArray pv) np) :: (D, listOf (List.toArray ys) c) :: T')) bb.length ?init ?turn)
      case init =>
        refine ⟨bb, tt, [], [], 0, none, _, _, rfl, rfl, rfl, .nil, Fr.cast kF2 ?_, kN2⟩
        funext y
        by_cases e0 : y = "wide"
        · subst e0; with_unfolding_all rfl
        by_cases e1 : y = "octets"
        · subst e1; with_unfolding_all rfl
        by_cases e2 : y = "parts"
        · subst e2; with_unfolding_all rfl
        by_cases e3 : y = "one"
        · subst e3; with_unfolding_all rfl
        by_cases e4 : y = "turn"
        · subst e4; with_unfolding_all rfl
        by_cases e5 : y = "place"
        · subst e5; with_unfolding_all rfl
        by_cases e6 : y = "values"
        · subst e6; with_unfolding_all rfl
        simp only [e0, e1, e2, e3, e4, e5, e6, if_false]
      case turn =>
        rintro k s' ⟨b2, t2, pv, ps, np, wv, h', tk, rfl, rfl, hfl, hpv, F2, N2⟩
        have hb2 : ps.flatten.length + b2.length = bb.length := by rw [← hfl, List.length_append]
        have hpl := PartsV.len hpv
        have hpz : (List.toArray pv).size ≤ sizeLine := by rw [List.size_toArray, sizeLine_eq]; omega
        (try clear kF2)
        (try clear kN2)
        (try clear F)
        (try clear N)
        k_steps
        all_goals (try dsimp only)
        · rename_i hpos
          refine C_consK ?_
          k_steps
          all_goals (try dsimp only)
          rename Fr g L' _ _ => kF
          obtain ⟨ww, tw, hww, kF3⟩ : ∃ ww tw, (1 ≤ ww ∧ ww ≤ 7) ∧ Fr g L' _ (fun (y : PySem.Str) => if y = "wide" then some (.int ww tw) else if y = "wide" then wv else if y = "octets" then some (.bytes (List.toArray b2) t2) else if y = "parts" then some (.ref P) else if y = "one" then ov2 else if y = "octets" then some (.bytes (List.toArray bb) tt) else if y = "turn" then tv else if y = "one" then ov else if y = "place" then some (.int pl tp) else if y = "values" then some (.ref D) else List.lookup y [("script", .ref l)]) := ⟨_, _, wide_ok _, kF⟩
          clear kF
          obtain ⟨hw1, hw2⟩ := hww
          refine C_consK ?_
          k_steps
          all_goals (try dsimp only)
          refine C_consK ?_
          k_steps
          all_goals (try dsimp only)
          refine C_nil ?_
          (try dsimp only)
          rename Fr g L' _ _ => kF
          rename News g L' _ _ => kN
          rw [cut_drop (by omega)] at kF
          rw [cut_take (by omega), List.push_toArray] at kN
          have hlt : b2.length - ww.toNat < b2.length := by omega
          obtain ⟨t3, t4, kF3, kN3⟩ : ∃ t3 t4, Fr g L' _ (fun (y : PySem.Str) => if y = "octets" then some (.bytes (List.toArray (b2.drop ww.toNat)) t3) else if y = "wide" then some (.int ww tw) else if y = "wide" then wv else if y = "octets" then some (.bytes (List.toArray b2) t2) else if y = "parts" then some (.ref P) else if y = "one" then ov2 else if y = "octets" then some (.bytes (List.toArray bb) tt) else if y = "turn" then tv else if y = "one" then ov else if y = "place" then some (.int pl tp) else if y = "values" then some (.ref D) else List.lookup y [("script", .ref l)]) ∧ News g L' _ ((P, listOf (List.toArray (pv ++ [.bytes (List.toArray (b2.take ww.toNat)) t4])) (np + 1)) :: (D, listOf (List.toArray ys) c) :: T') := ⟨_, _, kF, kN⟩
          refine ⟨⟨(b2.drop ww.toNat).length, by rw [List.length_drop]; exact hlt, b2.drop ww.toNat, t3, pv ++ [.bytes (List.toArray (b2.take ww.toNat)) t4], ps ++ [b2.take ww.toNat], np + 1, some (.int ww tw), _, _, rfl, rfl, ?_, PartsV.snoc hpv ?_ ?_, Fr.cast kF3 ?_, kN3⟩⟩
          · rw [List.flatten_append, List.flatten_singleton, List.append_assoc, List.take_append_drop, hfl]
          · rw [List.length_take]; omega
          · rw [List.length_take]; omega
          · funext y
            by_cases e0 : y = "wide"
            · subst e0; with_unfolding_all rfl
            by_cases e1 : y = "octets"
            · subst e1; with_unfolding_all rfl
            by_cases e2 : y = "parts"
            · subst e2; with_unfolding_all rfl
            by_cases e3 : y = "one"
            · subst e3; with_unfolding_all rfl
            by_cases e4 : y = "turn"
            · subst e4; with_unfolding_all rfl
            by_cases e5 : y = "place"
            · subst e5; with_unfolding_all rfl
            by_cases e6 : y = "values"
            · subst e6; with_unfolding_all rfl
            simp only [e0, e1, e2, e3, e4, e5, e6, if_false]
        · rename_i hzero
          have hb0 : b2 = [] := List.eq_nil_of_length_eq_zero (by omega)
          rw [hb0, List.append_nil] at hfl
          refine C_nil ?_
          (try dsimp only)
          clear hzero
          have hPT := hl1.2
          refine C_consK ?_
          k_steps
          all_goals (try dsimp only)
          rename Fr g L' _ _ => kF
          obtain ⟨mz, tm, hmz, kF3⟩ : ∃ mz tm, (0 ≤ mz ∧ mz < 3) ∧ Fr g L' _ (fun (y : PySem.Str) => if y = "mode" then some (.int mz tm) else if y = "wide" then wv else if y = "octets" then some (.bytes (List.toArray b2) t2) else if y = "parts" then some (.ref P) else if y = "one" then ov2 else if y = "octets" then some (.bytes (List.toArray bb) tt) else if y = "turn" then tv else if y = "one" then ov else if y = "place" then some (.int pl tp) else if y = "values" then some (.ref D) else List.lookup y [("script", .ref l)]) := ⟨_, _, fm _ (by decide), kF⟩
          clear kF
          obtain ⟨hm1, hm2⟩ := hmz
          refine C_consK ?_
          k_steps
          all_goals (try dsimp only)
          refine C_cons (C_Expr (C_Call ?_))
          k_steps
          refine C_callK (K := Mine.frag.heap_1 w.params) ?kK ?_
          case kK => k_is
          k_steps
          rename Fr g L' _ _ => kF
          rename News g L' _ _ => kN
          have hlD : @LT.lt Nat _ D P := hl1.1
          have hTP : ∀ p ∈ (D, listOf (List.toArray ys) c) :: T', @LT.lt Nat _ p.1 P := by
            intro p hp
            rcases List.mem_cons.mp hp with rfl | hp
            · exact hlD
            · exact allLt_lt hPT p hp
          refine c_connE (pl := P) B kF X T ⟨_, _, _, _, _, _, _, perm7 kN, ?h0, ?h1, ?h2, ?h3⟩ rfl ?hd ?hu ?_
          case h0 =>
            intro q hq hm
            simp only [List.mem_cons, List.not_mem_nil, or_false] at hm
            simp only [List.cons_append, List.nil_append, List.mem_cons] at hq
            have hqP : q ∈ T' → @LT.lt Nat _ q.1 P := fun h => hTP q (.tail _ h)
            rcases hq with rfl | rfl | rfl | rfl | hq
            · have hm' : @Eq Nat _ _ ∨ @Eq Nat _ _ ∨ @Eq Nat _ _ := hm
              dsimp only at hm'; omega
            · have hm' : @Eq Nat _ _ ∨ @Eq Nat _ _ ∨ @Eq Nat _ _ := hm
              dsimp only at hm'; omega
            · have hm' : @Eq Nat _ _ ∨ @Eq Nat _ _ ∨ @Eq Nat _ _ := hm
              dsimp only at hm'; omega
            · have hm' : @Eq Nat _ _ ∨ @Eq Nat _ _ ∨ @Eq Nat _ _ := hm
              dsimp only at hm'; omega
            · have := hqP hq
              have hm' : @Eq Nat _ _ ∨ @Eq Nat _ _ ∨ @Eq Nat _ _ := hm
              omega
          case h1 =>
            intro q hq hm
            have hqP := hTP q hq
            simp only [List.mem_cons, List.not_mem_nil, or_false] at hm
            have hm' : @Eq Nat _ _ ∨ @Eq Nat _ _ ∨ @Eq Nat _ _ := hm
            omega
          case h2 => omega
          case h3 => exact ⟨(by show @Ne Nat _ _; omega), (by show @Ne Nat _ _; omega)⟩
          case hd => show dp + 1 + 20 < recursionLimit; omega
          case hu => show un + 3 + 8 * 20 < cLine; omega
          intro pp epp en ed pd kp u te1 te2 h₈ t₈ k sb sd b bd ba i1 i2 s1 s2 tq0 F₈ N₉ hAp hKp
          subst epp
          clear kN kF
          (try dsimp only)
          have hS0 : Strm [] 0 pv ps (wrs (Vs.drop 0)) := ⟨Nat.le_refl _, hpv, by show ps.flatten = wrs Vs; rw [← hbe, ← hfl], by rw [hfl]; simp only [List.length_nil]; omega⟩
          refine C_cons (C_For_list (h₀ := g) (L := L') D (List.toArray ys) (fun i m news => ∃ (bs1 : List UInt8) (q1 : Nat) (tq1 : Tok) (vs1 : List Value) (ps1 : List (List UInt8)) (n1 : Nat) (gv ov3 : Option Value), (m = fun (y : PySem.Str) => if y = "got" then gv else if y = "one" then ov3 else if y = "parser" then some (.ref pp) else if y = "mode" then some (.int mz tm) else if y = "wide" then wv else if y = "octets" then some (.bytes (List.toArray b2) t2) else if y = "parts" then some (.ref P) else if y = "one" then ov2 else if y = "octets" then some (.bytes (List.toArray bb) tt) else if y = "turn" then tv else if y = "one" then ov else if y = "place" then some (.int pl tp) else if y = "values" then some (.ref D) else List.lookup y [("script", .ref l)]) ∧ news = ([(sb, instObj 934 sd), (sd, sbD k (.ref P) 4 u .none b), (b, instObj 601 bd), (bd, bioD i1 i2 s1 s2 ba ((q1 : Nat) : Int) tq1), (ba, baObj (bs1).toArray), (P, listOf (vs1).toArray n1)] ++ [(pp, instObj 1077 pd), (pd, parD kp u (.ref en) (.ref P) (.ref sb)), (en, encOb (decide (0 < mz)) ed te1 te2), (ed, dictOf [] 0)]) ++ ((D, listOf (List.toArray ys) c) :: T') ∧ Strm bs1 q1 vs1 ps1 (wrs (Vs.drop i))) rfl rfl rfl rfl ?hF ?hJS)
          case hJS =>
            rintro _ _ _ ⟨_, _, _, _, _, _, _, _, _, rfl, _⟩
            exact .inr ⟨_, List.mem_append_right _ (.head _), rfl, _, rfl⟩
          iterate 1 (first | walk1 | (dsimp only; walk1))
          refine ⟨_, _, rfl, F₈, N₉, ?J0, ?turn, ?fin⟩
          case J0 =>
            refine ⟨[], 0, tq0, pv, ps, np, none, ov2, ?_, rfl, hS0⟩
            funext y
            by_cases e0 : y = "got"
            · subst e0; with_unfolding_all rfl
            by_cases e1 : y = "one"
            · subst e1; with_unfolding_all rfl
            by_cases e2 : y = "parser"
            · subst e2; with_unfolding_all rfl
            by_cases e3 : y = "mode"
            · subst e3; with_unfolding_all rfl
            by_cases e4 : y = "wide"
            · subst e4; with_unfolding_all rfl
            by_cases e5 : y = "octets"
            · subst e5; with_unfolding_all rfl
            by_cases e6 : y = "parts"
            · subst e6; with_unfolding_all rfl
            by_cases e7 : y = "turn"
            · subst e7; with_unfolding_all rfl
            by_cases e8 : y = "place"
            · subst e8; with_unfolding_all rfl
            by_cases e9 : y = "values"
            · subst e9; with_unfolding_all rfl
            simp only [e0, e1, e2, e3, e4, e5, e6, e7, e8, e9, if_false]
          case turn =>
            rintro i m news v I oI h tk hi hP ⟨bs1, q1, tq1, vs1, ps1, n1, gv, ov3, rfl, rfl, hS⟩ F N off
            have hP' : ys[i]? = some v := by simpa using hP
            obtain ⟨V, hV, hLV⟩ := Lays.get hL hP'
            have hVW := hW V (List.mem_of_getElem? hV)
            have hix : i < Vs.length := (List.getElem?_eq_some_iff.mp hV).1
            have hdr : wrs (Vs.drop i) = V.wr ++ wrs (Vs.drop (i + 1)) := by
              rw [List.drop_eq_getElem_cons hix, wrs, (List.getElem?_eq_some_iff.mp hV).2]
            rw [hdr] at hS
            have offm := off1_mem off
            have hI1 : I ∉ ([sb, sd, b, bd, ba, P, pp, pd, en, ed] : List Addr) := fun hm => by
              simp only [List.mem_cons, List.not_mem_nil, or_false] at hm
              have o := fun a ob (hmm : (a, ob) ∈ [(sb, instObj 934 sd), (sd, sbD k (.ref P) 4 u .none b), (b, instObj 601 bd), (bd, bioD i1 i2 s1 s2 ba ((q1 : Nat) : Int) tq1), (ba, baObj (bs1).toArray), (P, listOf (vs1).toArray n1)] ++ [(pp, instObj 1077 pd), (pd, parD kp u (.ref en) (.ref P) (.ref sb)), (en, encOb (decide (0 < mz)) ed te1 te2), (ed, dictOf [] 0)]) => offm (a, ob) (List.mem_append_left _ hmm)
              rcases hm with rfl | rfl | rfl | rfl | rfl | rfl | rfl | rfl | rfl | rfl <;> exact o _ _ (by k_mem) rfl
            have hkp : ∀ q ∈ (I, oI) :: (D, listOf (List.toArray ys) c) :: T', q.1 ∉ ([sb, sd, b, bd, ba, P, pp, pd, en, ed] : List Addr) := by
              intro q hq
              rcases List.mem_cons.mp hq with rfl | hq
              · exact hI1
              · exact hKp q hq
            clear offm hI1 hdr
            dsimp only [List.cons_append, List.nil_append] at N
            refine C_cons (C_If ?_)
            k_steps
            all_goals (try dsimp only)
            · refine C_cons (C_Assign_Name (C_Call ?_))
              k_steps
              refine C_callKW0 (K := Mine.frag.heap_1 w.params) ?kK ?kA ?_
              case kK => k_is
              case kA => rfl
              k_steps
              rename Fr g L' _ _ => kF
              rename News g L' _ _ => kN
              (try dsimp only [List.cons_append, List.nil_append])
              have kN3 := News.perm kN (news' := ([(sb, instObj 934 sd), (sd, sbD k (.ref P) 4 u .none b), (b, instObj 601 bd), (bd, bioD i1 i2 s1 s2 ba ((q1 : Nat) : Int) tq1), (ba, baObj (bs1).toArray), (P, listOf (vs1).toArray n1)] ++ [(pp, instObj 1077 pd), (pd, parD kp u (.ref en) (.ref P) (.ref sb)), (en, encOb (decide (0 < mz)) ed te1 te2), (ed, dictOf [] 0)]) ++ ((I, oI) :: (D, listOf (List.toArray ys) c) :: T')) (by
                intro p hp
                simp only [List.cons_append, List.nil_append, List.mem_cons] at hp ⊢
                rcases hp with h | h | h | h | h | h | h | h | h | h | h | h | h <;> simp [h])
              refine' c_rs_dis hAp hVW B kF X T hS kN3 hkp rfl ?hd ?hu ?_
              case hd => show dp + 1 + 32 < recursionLimit; omega
              case hu => show un + 3 + 8 * 32 < cLine; omega
              intro v₇ h₇ t₇ T2 bs3 q3 vs3 ps3 n3 tq3 F₇ N₇ hG2 S3
              clear kF kN kN3
              have hdec : (!true && decide (0 < mz)) = (mz == 1) := by
                have hmz2 : mz = 2 := by omega
                subst hmz2; rfl
              rw [hdec] at hG2
              dsimp only [List.cons_append, List.nil_append] at N₇
              (try dsimp only)
              k_steps
              all_goals (try dsimp only)
              refine C_nil ?_
              (try dsimp only)
              refine C_cons (C_IfW (C_isTrue_Not (C_isTrue_Call (C_Call_Name ?_))))
              k_steps
              refine C_callK (K := Mine.frag.heap_1 w.params) ?kK ?_
              case kK => k_is
              k_steps
              rename Fr g L' _ _ => kF
              rename News g L' _ _ => kN
              (try dsimp only [List.cons_append, List.nil_append])
              refine useC (ls_all w p loose mean mg mb _ 2 V hVW v₇ v) B kF X kN T rfl (keepL := ([(sb, instObj 934 sd), (sd, sbD k (.ref P) 4 u .none b), (b, instObj 601 bd), (bd, bioD i1 i2 s1 s2 ba ((q3 : Nat) : Int) tq3), (ba, baObj (bs3).toArray), (P, listOf (vs3).toArray n3)] ++ [(pp, instObj 1077 pd), (pd, parD kp u (.ref en) (.ref P) (.ref sb)), (en, encOb (decide (0 < mz)) ed te1 te2), (ed, dictOf [] 0)]) ++ (T2 ++ ((I, oI) :: (D, listOf (List.toArray ys) c) :: T'))) (fun _ q => nomatch q) (fun q hq => ⟨hq, fun hm => nomatch hm⟩) (fun g' st hn => ⟨Got.mono (fun a o hm => hn _ (List.mem_append_right _ (List.mem_append_left _ hm))) hG2, Lay.mono (fun a o hm => hn _ (List.mem_append_right _ (List.mem_append_right _ (.tail _ (.tail _ hm))))) hLV⟩) ?hd ?hu ?_
              case hd => show dp + 1 + 8 < recursionLimit; omega
              case hu => show un + 3 + 8 * 8 < cLine; omega
              intro v₈ h₉ t₉ g₈ F₉ N₉' st₈ kp₈ st₈' post₈ bld
              subst post₈
              clear kF kN bld
              (try dsimp only)
              k_steps
              all_goals (try dsimp only)
              refine C_nil ?_
              (try dsimp only)
              refine C_nil ?_
              (try dsimp only)
              rename Fr g L' _ _ => kF
              rename News g L' _ _ => kN
              have kN5 := News.perm kN (news' := (I, oI) :: (([(sb, instObj 934 sd), (sd, sbD k (.ref P) 4 u .none b), (b, instObj 601 bd), (bd, bioD i1 i2 s1 s2 ba ((q3 : Nat) : Int) tq3), (ba, baObj (bs3).toArray), (P, listOf (vs3).toArray n3)] ++ [(pp, instObj 1077 pd), (pd, parD kp u (.ref en) (.ref P) (.ref sb)), (en, encOb (decide (0 < mz)) ed te1 te2), (ed, dictOf [] 0)]) ++ ((D, listOf (List.toArray ys) c) :: T'))) (fin_sub _ _ _ _)
              have kO : LCg.Off1 I (([(sb, instObj 934 sd), (sd, sbD k (.ref P) 4 u .none b), (b, instObj 601 bd), (bd, bioD i1 i2 s1 s2 ba ((q3 : Nat) : Int) tq3), (ba, baObj (bs3).toArray), (P, listOf (vs3).toArray n3)] ++ [(pp, instObj 1077 pd), (pd, parD kp u (.ref en) (.ref P) (.ref sb)), (en, encOb (decide (0 < mz)) ed te1 te2), (ed, dictOf [] 0)]) ++ ((D, listOf (List.toArray ys) c) :: T')) := off
              exact ⟨_, _, _, _, rfl, Fr.cast kF (m' := fun (y : PySem.Str) => if y = "got" then some v₇ else if y = "one" then some v else if y = "parser" then some (.ref pp) else if y = "mode" then some (.int mz tm) else if y = "wide" then wv else if y = "octets" then some (.bytes (List.toArray b2) t2) else if y = "parts" then some (.ref P) else if y = "one" then ov2 else if y = "octets" then some (.bytes (List.toArray bb) tt) else if y = "turn" then tv else if y = "one" then ov else if y = "place" then some (.int pl tp) else if y = "values" then some (.ref D) else List.lookup y [("script", .ref l)]) (by
                funext y
                by_cases e0 : y = "got"
                · subst e0; with_unfolding_all rfl
                by_cases e1 : y = "one"
                · subst e1; with_unfolding_all rfl
                by_cases e2 : y = "parser"
                · subst e2; with_unfolding_all rfl
                by_cases e3 : y = "mode"
                · subst e3; with_unfolding_all rfl
                by_cases e4 : y = "wide"
                · subst e4; with_unfolding_all rfl
                by_cases e5 : y = "octets"
                · subst e5; with_unfolding_all rfl
                by_cases e6 : y = "parts"
                · subst e6; with_unfolding_all rfl
                by_cases e7 : y = "turn"
                · subst e7; with_unfolding_all rfl
                by_cases e8 : y = "place"
                · subst e8; with_unfolding_all rfl
                by_cases e9 : y = "values"
                · subst e9; with_unfolding_all rfl
                simp only [e0, e1, e2, e3, e4, e5, e6, e7, e8, e9, if_false]), kN5, kO, bs3, q3, tq3, vs3, ps3, n3, some v₇, some v, rfl, rfl, S3⟩
            · refine C_cons (C_Assign_Name (C_Call ?_))
              k_steps
              refine C_callK0 (K := Mine.frag.heap_1 w.params) (X.keeps (Fr.keep (by assumption))) ?kK ?_
              case kK => k_is
              rename Fr g L' _ _ => kF
              rename News g L' _ _ => kN
              (try dsimp only [List.cons_append, List.nil_append])
              have kN3 := News.perm kN (news' := ([(sb, instObj 934 sd), (sd, sbD k (.ref P) 4 u .none b), (b, instObj 601 bd), (bd, bioD i1 i2 s1 s2 ba ((q1 : Nat) : Int) tq1), (ba, baObj (bs1).toArray), (P, listOf (vs1).toArray n1)] ++ [(pp, instObj 1077 pd), (pd, parD kp u (.ref en) (.ref P) (.ref sb)), (en, encOb (decide (0 < mz)) ed te1 te2), (ed, dictOf [] 0)]) ++ ((I, oI) :: (D, listOf (List.toArray ys) c) :: T')) (by
                intro p hp
                simp only [List.cons_append, List.nil_append, List.mem_cons] at hp ⊢
                rcases hp with h | h | h | h | h | h | h | h | h | h | h | h | h <;> simp [h])
              refine' c_rs_def hAp hVW B kF X T hS kN3 hkp rfl ?hd ?hu ?_
              case hd => show dp + 1 + 32 < recursionLimit; omega
              case hu => show un + 3 + 8 * 32 < cLine; omega
              intro v₇ h₇ t₇ T2 bs3 q3 vs3 ps3 n3 tq3 F₇ N₇ hG2 S3
              clear kF kN kN3
              have hdec : (!false && decide (0 < mz)) = (mz == 1) := by
                have hmz2 : mz = 0 ∨ mz = 1 := by omega
                rcases hmz2 with rfl | rfl <;> rfl
              rw [hdec] at hG2
              dsimp only [List.cons_append, List.nil_append] at N₇
              (try dsimp only)
              k_steps
              all_goals (try dsimp only)
              refine C_nil ?_
              (try dsimp only)
              refine C_cons (C_IfW (C_isTrue_Not (C_isTrue_Call (C_Call_Name ?_))))
              k_steps
              refine C_callK (K := Mine.frag.heap_1 w.params) ?kK ?_
              case kK => k_is
              k_steps
              rename Fr g L' _ _ => kF
              rename News g L' _ _ => kN
              (try dsimp only [List.cons_append, List.nil_append])
              refine useC (ls_all w p loose mean mg mb _ 2 V hVW v₇ v) B kF X kN T rfl (keepL := ([(sb, instObj 934 sd), (sd, sbD k (.ref P) 4 u .none b), (b, instObj 601 bd), (bd, bioD i1 i2 s1 s2 ba ((q3 : Nat) : Int) tq3), (ba, baObj (bs3).toArray), (P, listOf (vs3).toArray n3)] ++ [(pp, instObj 1077 pd), (pd, parD kp u (.ref en) (.ref P) (.ref sb)), (en, encOb (decide (0 < mz)) ed te1 te2), (ed, dictOf [] 0)]) ++ (T2 ++ ((I, oI) :: (D, listOf (List.toArray ys) c) :: T'))) (fun _ q => nomatch q) (fun q hq => ⟨hq, fun hm => nomatch hm⟩) (fun g' st hn => ⟨Got.mono (fun a o hm => hn _ (List.mem_append_right _ (List.mem_append_left _ hm))) hG2, Lay.mono (fun a o hm => hn _ (List.mem_append_right _ (List.mem_append_right _ (.tail _ (.tail _ hm))))) hLV⟩) ?hd ?hu ?_
              case hd => show dp + 1 + 8 < recursionLimit; omega
              case hu => show un + 3 + 8 * 8 < cLine; omega
              intro v₈ h₉ t₉ g₈ F₉ N₉' st₈ kp₈ st₈' post₈ bld
              subst post₈
              clear kF kN bld
              (try dsimp only)
              k_steps
              all_goals (try dsimp only)
              refine C_nil ?_
              (try dsimp only)
              refine C_nil ?_
              (try dsimp only)
              rename Fr g L' _ _ => kF
              rename News g L' _ _ => kN
              have kN5 := News.perm kN (news' := (I, oI) :: (([(sb, instObj 934 sd), (sd, sbD k (.ref P) 4 u .none b), (b, instObj 601 bd), (bd, bioD i1 i2 s1 s2 ba ((q3 : Nat) : Int) tq3), (ba, baObj (bs3).toArray), (P, listOf (vs3).toArray n3)] ++ [(pp, instObj 1077 pd), (pd, parD kp u (.ref en) (.ref P) (.ref sb)), (en, encOb (decide (0 < mz)) ed te1 te2), (ed, dictOf [] 0)]) ++ ((D, listOf (List.toArray ys) c) :: T'))) (fin_sub _ _ _ _)
              have kO : LCg.Off1 I (([(sb, instObj 934 sd), (sd, sbD k (.ref P) 4 u .none b), (b, instObj 601 bd), (bd, bioD i1 i2 s1 s2 ba ((q3 : Nat) : Int) tq3), (ba, baObj (bs3).toArray), (P, listOf (vs3).toArray n3)] ++ [(pp, instObj 1077 pd), (pd, parD kp u (.ref en) (.ref P) (.ref sb)), (en, encOb (decide (0 < mz)) ed te1 te2), (ed, dictOf [] 0)]) ++ ((D, listOf (List.toArray ys) c) :: T')) := off
              exact ⟨_, _, _, _, rfl, Fr.cast kF (m' := fun (y : PySem.Str) => if y = "got" then some v₇ else if y = "one" then some v else if y = "parser" then some (.ref pp) else if y = "mode" then some (.int mz tm) else if y = "wide" then wv else if y = "octets" then some (.bytes (List.toArray b2) t2) else if y = "parts" then some (.ref P) else if y = "one" then ov2 else if y = "octets" then some (.bytes (List.toArray bb) tt) else if y = "turn" then tv else if y = "one" then ov else if y = "place" then some (.int pl tp) else if y = "values" then some (.ref D) else List.lookup y [("script", .ref l)]) (by
                funext y
                by_cases e0 : y = "got"
                · subst e0; with_unfolding_all rfl
                by_cases e1 : y = "one"
                · subst e1; with_unfolding_all rfl
                by_cases e2 : y = "parser"
                · subst e2; with_unfolding_all rfl
                by_cases e3 : y = "mode"
                · subst e3; with_unfolding_all rfl
                by_cases e4 : y = "wide"
                · subst e4; with_unfolding_all rfl
                by_cases e5 : y = "octets"
                · subst e5; with_unfolding_all rfl
                by_cases e6 : y = "parts"
                · subst e6; with_unfolding_all rfl
                by_cases e7 : y = "turn"
                · subst e7; with_unfolding_all rfl
                by_cases e8 : y = "place"
                · subst e8; with_unfolding_all rfl
                by_cases e9 : y = "values"
                · subst e9; with_unfolding_all rfl
                simp only [e0, e1, e2, e3, e4, e5, e6, e7, e8, e9, if_false]), kN5, kO, bs3, q3, tq3, vs3, ps3, n3, some v₇, some v, rfl, rfl, S3⟩
          case fin =>
            rintro m h tk news ⟨bs1, q1, tq1, vs1, ps1, n1, gv, ov3, rfl, rfl, hS⟩ F N
            rw [List.drop_of_length_le (by rw [List.size_toArray]; omega)] at hS
            obtain rfl := strm_end hS
            dsimp only [List.cons_append, List.nil_append] at N
            clear hW hL hWb hKp
            refine C_consK ?_
            k_steps
            all_goals (try dsimp only)
            exact kont _ _ _ (Fr.keep (by assumption)) rfl
end Mine
end EzLaw
end
open PySem PySem.W PyProof.Rows PySem.Calls
namespace Mine
set_option maxRecDepth 100000
set_option maxHeartbeats 8000000
local macro_rules | `(tactic| o_head ($_f $_k $a $_p)) => `(tactic| o_head (id (Mine.hook Mine.frag.heap_1 $a (fun _ => by kernel_rfl))))
/-- names taken ahead, so that the library lays no twin for the heads' trees (they would make the compiled file 700 MB) -/
def top.tw5597187220613765494 : Unit := ()
def top.tw11470252648414753811 : Unit := ()
def top.tw15988258018655671626 : Unit := ()
def top.tw6189045185395380447 : Unit := ()
def top.tw11624971203582042403 : Unit := ()
def top.tw2243170655852947205 : Unit := ()
def top.tw16082718784150747160 : Unit := ()
def top.tw16598799759364053327 : Unit := ()
def top.tw11728428570680665570 : Unit := ()
def top.tw16599547676461567385 : Unit := ()
def top.tw10392794523387053890 : Unit := ()
def top.tw13940538889039520484 : Unit := ()
def top.tw4997509813036325311 : Unit := ()
def top.tw17912322529849362164 : Unit := ()
def top.tw5647621183791001060 : Unit := ()
def top.tw7100016671515904942 : Unit := ()
def top.tw6820031018915271472 : Unit := ()
def top.tw4199510409282951887 : Unit := ()
def top.tw13941562825188073611 : Unit := ()
def top.tw16502063483782752993 : Unit := ()
def top.tw14218365931652832948 : Unit := ()
def top.tw10861960076438210015 : Unit := ()
def top.tw2508421608060233526 : Unit := ()
def top.tw12248423029644960792 : Unit := ()
def top.tw3933941016417956559 : Unit := ()
def top.tw10905453430130554430 : Unit := ()
def top.tw2792943032503483283 : Unit := ()
def top.tw3030443613676547711 : Unit := ()
def top.tw2412723608151168306 : Unit := ()
def top.tw9061833864366704279 : Unit := ()
def top.tw13106526274829610521 : Unit := ()
def top.tw1188486156905335285 : Unit := ()
def top.tw7793331513851465354 : Unit := ()
def top.tw3918932569253593186 : Unit := ()
def top.tw16639387999765888140 : Unit := ()
def top.tw14992007542361138144 : Unit := ()
def top.tw2354324858565157191 : Unit := ()
def top.tw6184946753678143221 : Unit := ()
def top.tw3635180399690538926 : Unit := ()
def top.tw6346775975910636038 : Unit := ()
def top.tw3861062097713964573 : Unit := ()
def top.tw563878799500733524 : Unit := ()
def top.tw4317432343046343519 : Unit := ()
def top.tw10724715758817110837 : Unit := ()
def top.tw1436295702400239765 : Unit := ()
set_option Elab.async true in
theorem top : PySem.Challenge.rw_ez0337_01.Holds := by
  w_on
  o_law
  k_head
  (case hw => w_witness2)
  intro w s₀ s₁ mg mb G Y a o pm cd doc dV kV ho hd hcd hD hmg hg args vals as hpre hlay hrd hwl hlo
  have KX := Mine.in_of Y
  have T := Ground.T G
  wrow_args hpre hlay hrd hwl hlo
  have e : mg (PySem.Str.ofString "law") = some (.ref 1153) := mg_of KX T.g (by kernel_rfl)
  replace hmg : mg (PySem.Str.ofString "law") = some (.ref a) := hmg
  rw [hmg] at e
  cases e
  clear Y G ho hd hcd hD
  refine C_call (law_does w _ _ _ mg mb _ _ _ (by assumption) (by omega) (1 + claimMargin) 4 (some []) [] s₁.heap s₁.heap callerA s₁ _ (below_caller _) (fun _ _ e => e) KX T (fun _ q => nomatch q) (Nat.le_refl _) (by assumption) (by decide) (by decide) fun v h' t' st hv => ⟨v, rfl, ?_⟩)
  subst hv
  exact ⟨.inl ⟨_, .bool true, _, rfl, fun _ => rfl, .bool true, postW_of (by wrow_shape) (by wtm_val) (by str_meet; first | done | w_fin), unshared_nil⟩, .of_keep st, rfl, .of_eq hg⟩
end Mine
theorem PySem.Challenge.cw_ez0337_01_holds : PySem.Challenge.rw_ez0337_01.Holds :=
  Mine.top
