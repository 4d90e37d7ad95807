import PyProof.Rows.All
import Wide.All
import OpenK.AllK
import Wide.FinOn
import PySem.Challenge.RW_je0012_01
set_option maxRecDepth 100000
set_option Elab.async false
namespace Mine
open _root_.PySem _root_.PySem.W _root_.PySem.Calls PyProof.Rows
open _root_.PySem.Sem (wp)

/-! ## Clean contexts: no built-in's code on the stack that may hold a bytearray -/
def badIds : List String := ["bytearray.__contains__", "bytearray.__mod__", "bytearray.__rmod__", "_struct.pack_into.held", "bytearray.find.held"] ++ Builtin.Bytes.decodersThatHold
def okCode : Code → Bool
  | .builtin id _ => !badIds.contains id
  | _ => true
def OkB (l : List (Code × Pos)) : Prop := ∀ x ∈ l, okCode x.1 = true

def wpC {α : Type} (M : Model) (A : Around) (t : Sem α) (Q : α → Shared → Prop) (E : Value → Shared → Prop) (s : Shared) : Prop :=
  ∀ Γ p, Γ.In A → okCode Γ.code = true → OkB Γ.below → wp M Γ t (fun a _ s' => Q a s') (fun e _ s' => E e s') p s
def codeC (M : Model) (A : Around) (c : Code) (R : Result → Shared → Prop) (s : Shared) : Prop :=
  ∀ Γ p, Γ.code = c → Γ.Below A → OkB Γ.below → wpCode M Γ R p s
/-- a built-in's own tree, in a clean context below it -/
def ownC {α : Type} (M : Model) (A : Around) (c : Code) (t : Sem α) (Q : α → Shared → Prop) (E : Value → Shared → Prop) (s : Shared) : Prop :=
  ∀ Γ p, Γ.code = c → Γ.Below A → OkB Γ.below → wp M Γ t (fun a _ s' => Q a s') (fun e _ s' => E e s') p s

section
variable {α β : Type} {M : Model} {A : Around} {E : Value → Shared → Prop} {s : Shared}
theorem wpC_of_any {t : Sem α} {Q : α → Shared → Prop} (h : wpAny M A t Q E s) : wpC M A t Q E s := fun Γ p hΓ _ _ => h Γ p hΓ
theorem codeC_of_any {c : Code} {R : Result → Shared → Prop} (h : codeAny M A c R s) : codeC M A c R s := fun Γ p hc hΓ _ => h Γ p hc hΓ
theorem wpC_pure {a : α} {Q : α → Shared → Prop} (h : Q a s) : wpC M A (pure a) Q E s := fun _ _ _ _ _ => h
theorem wpC_mono {t : Sem α} {Q Q' : α → Shared → Prop} {E' : Value → Shared → Prop} (h : wpC M A t Q E s)
    (hQ : ∀ a s, Q a s → Q' a s) (hE : ∀ e s, E e s → E' e s) : wpC M A t Q' E' s :=
  fun Γ p hΓ hk hb => Sem.wp_mono M Γ t (fun a _ s => hQ a s) (fun e _ s => hE e s) p s (h Γ p hΓ hk hb)
theorem wpC_bind {m : Sem α} {f : α → Sem β} {Q : β → Shared → Prop} (h : wpC M A m (fun a s' => wpC M A (f a) Q E s') E s) :
    wpC M A (m >>= f) Q E s := fun Γ p hΓ hk hb => by
  rw [Sem.wp_bind']
  exact Sem.wp_mono M Γ m (fun a p' s' h' => h' Γ p' hΓ hk hb) (fun _ _ _ h' => h') p s (h Γ p hΓ hk hb)
/-- the first part is walked by the library, the rest is clean -/
theorem wpC_bindA {m : Sem α} {f : α → Sem β} {Q : β → Shared → Prop} (h : wpAny M A m (fun a s' => wpC M A (f a) Q E s') E s) :
    wpC M A (m >>= f) Q E s := wpC_bind (wpC_of_any h)
theorem wpC_holding {vs : List Value} {m : Sem α} {Q : α → Shared → Prop} (h : wpC M A m Q E s) : wpC M A (holding vs m) Q E s :=
  fun Γ p hΓ hk hb => by rw [Sem.wp_holding]; exact h Γ p hΓ hk hb
theorem wpC_keep {vs : List Value} {m : Sem α} {Q : α → Shared → Prop} (h : wpC M A m Q E s) : wpC M A (m.keep vs) Q E s :=
  fun Γ p hΓ hk hb => by rw [Sem.wp_keep]; exact h Γ p hΓ hk hb
theorem wpC_onRaise {m : Sem α} {k : Value → Sem Unit} {Q : α → Shared → Prop}
    (h : wpC M A m Q (fun e s' => wpC M A (k e) (fun _ s'' => E e s'') E s') s) : wpC M A (m.onRaise k) Q E s := fun Γ p hΓ hk hb => by
  rw [Sem.wp_onRaise]
  exact Sem.wp_mono M Γ m (fun _ _ _ h' => h') (fun e p' s' h' => h' Γ p' hΓ hk hb) p s (h Γ p hΓ hk hb)

theorem OkB.enter {Γ : Ctx} {c : Code} {h : Option Value} {p : Pos} (hk : okCode Γ.code = true) (hb : OkB Γ.below) : OkB (Γ.enter c h p).below := by
  intro x hx
  rcases List.mem_cons.mp hx with rfl | hx
  · exact hk
  · exact hb x hx

theorem wpC_run {c : Code} {h : Option Value} {Q : Flow → Shared → Prop}
    (hc : codeC M (A.mark h) c (fun r s' => match r with | .ok f => Q f s' | .error e => E e s') s) (hnb : h ≠ some byPass := by intro x; cases x) :
    wpC M A (run c h) Q E s :=
  fun Γ p hΓ hk hb => by rw [Sem.wp_run]; exact hc _ p rfl (hΓ.enter c h p hnb) (OkB.enter hk hb)
theorem wpC_runValue {c : Code} {Q : Value → Shared → Prop}
    (hc : codeC M A c (fun r s' => match r with | .ok (.ret v) => Q v s' | .ok _ => False | .error e => E e s') s) :
    wpC M A (runValue c) Q E s := fun Γ p hΓ hk hb => by rw [Sem.wp_runValue]; exact hc _ p rfl (hΓ.enter c none p (by intro x; cases x)) (OkB.enter hk hb)
theorem wpC_call {f : Value} {pos : List Value} {kw : List (Str × Value)} {Q : Value → Shared → Prop}
    (hc : codeC M A (.call f ⟨pos, kw⟩) (fun r s' => match r with | .ok (.ret v) => Q v s' | .ok _ => False | .error e => E e s') s) :
    wpC M A (call f pos kw) Q E s := wpC_runValue hc

theorem codeC_mono {c : Code} {R R' : Result → Shared → Prop} (h : codeC M A c R s) (hR : ∀ r s, R r s → R' r s) : codeC M A c R' s :=
  fun Γ p hc hΓ hb => wpCode_mono hR (h Γ p hc hΓ hb)

theorem codeC_of_own {c : Code} {R : Result → Shared → Prop}
    (h : ownC M A c (M.den c) (fun fin s' => match fin with | .done f => R (.ok f) s' | .again c' => c'.quiet = true ∧ codeC M A c' R s')
      (fun e s' => R (.error e) s') s) : codeC M A c R s := fun Γ p hc hΓ hb => by
  rw [wpCode_iff_wp, hc]
  refine Sem.wp_mono M Γ _ (fun fin p' s' h' => ?_) (fun _ _ _ h' => h') p s (h Γ p hc hΓ hb)
  cases fin with
  | done f => exact h'
  | again c' => exact ⟨h'.1, h'.2 (Γ.goto c') p' rfl (hΓ.goto c') hb⟩
theorem ownC_of_wpC {c : Code} {t : Sem α} {Q : α → Shared → Prop} (hk : okCode c = true) (h : wpC M (A.under c) t Q E s) : ownC M A c t Q E s :=
  fun Γ p hc hΓ hb => h Γ p (hc ▸ hΓ.in) (hc ▸ hk) hb
theorem ownC_of_any {c : Code} {t : Sem α} {Q : α → Shared → Prop} (h : wpAny M (A.under c) t Q E s) : ownC M A c t Q E s :=
  fun Γ p hc hΓ _ => h Γ p (hc ▸ hΓ.in)
theorem ownC_bind {c : Code} {m : Sem α} {f : α → Sem β} {Q : β → Shared → Prop} (h : ownC M A c m (fun a s' => ownC M A c (f a) Q E s') E s) :
    ownC M A c (m >>= f) Q E s := fun Γ p hc hΓ hb => by
  rw [Sem.wp_bind']
  exact Sem.wp_mono M Γ m (fun a p' s' h' => h' Γ p' hc hΓ hb) (fun _ _ _ h' => h') p s (h Γ p hc hΓ hb)
theorem codeC_of_tree {c : Code} {R : Result → Shared → Prop} (hk : okCode c = true)
    (h : wpC M (A.under c) (M.den c) (fun fin s' => match fin with | .done f => R (.ok f) s' | .again c' => c'.quiet = true ∧ codeC M A c' R s')
      (fun e s' => R (.error e) s') s) : codeC M A c R s := codeC_of_own (ownC_of_wpC hk h)
theorem ownC_stack {c : Code} {Q : List (Code × Pos) → Shared → Prop}
    (h : ∀ (p : Pos) (below : List (Code × Pos)), OkB below → Q ((c, p) :: below) s) : ownC M A c stack Q E s := fun Γ p hc hΓ hb => by
  show Q ((Γ.code, p) :: Γ.below) s
  rw [hc]; exact h p Γ.below hb
end

/-! ## The head over clean contexts (the library's head asks for all contexts) -/
theorem thread_ends_C {prog : Program} {w : World} {t : Sem Fin} {s : Shared} {R : Result → Shared → Prop} (hreg : s.asleep)
    (h : wpC (model prog w) callerA t (fun fin s' => ∃ f, fin = .done f ∧ (R (.ok f) s' ∧ leftWithCleanup s'.gens = false)) (fun e s' => R (.error e) s' ∧ leftWithCleanup s'.gens = false) s) :
    ∃ n r s' s'', runN (denote table) prog w n s ⟨t, .builtin "claim.caller" {}, default, []⟩ = .halted (outcomeOf r) s' ∧
      schedN (denote table) prog w n (.single s ⟨t, .builtin "claim.caller" {}, default, []⟩) = .halted (outcomeOf r) s' ∧ s'.forget = s''.forget ∧ R r s'' := by
  have hwp : wp (model prog w) ⟨.builtin "claim.caller" {}, none, none, [], none⟩ t
      (Sem.finPost (model prog w) ⟨.builtin "claim.caller" {}, none, none, [], none⟩ fun r s' => R r s' ∧ leftWithCleanup s'.gens = false)
      (fun e _ s' => R (.error e) s' ∧ leftWithCleanup s'.gens = false) default s := by
    refine Sem.wp_mono _ _ t (fun fin p' s' h' => ?_) (fun _ _ _ h' => h') default s (h _ default caller_in (by decide +kernel) (fun x hx => nomatch hx))
    obtain ⟨f, rfl, hf⟩ := h'
    exact hf
  obtain ⟨n, r, s₁, s₂, hs, hn, hfo, hR⟩ := wp_halts_full (M := model prog w) (R := R) hreg hwp
  exact ⟨n, r, s₂, s₁, hn, hs, hfo, hR⟩

theorem callFrom_C {c : ClaimW} {tree : List Value → Sem Fin} {w : World} {s : Shared} {free : Addr → Prop} {gens : Prop} {kept : Heap → Prop} (hz : s.asleep) (hgens : s.gens = #[])
    (hspec : ∀ args, c.pre args = true → WData.layableAll args = true →
      ∀ ord : List DictEntry → List DictEntry, (∀ l, (ord l).Perm l) →
      ∃ vs s₁, layAllW c.records (classAt s.heap) w.params ord args s = some (vs, s₁) ∧
        wpC (model c.prog w) callerA (tree vs) (fun fin s' => ∃ f, fin = .done f ∧ (c.Ends s args vs s₁ (.ok f) s' ∧ s'.os = s.os ∧ AllBare s'.gens ∧ kept s'.heap))
          (fun e s' => c.Ends s args vs s₁ (.error e) s' ∧ s'.os = s.os ∧ AllBare s'.gens ∧ kept s'.heap) s₁) :
    c.CallFrom (fun vs => ⟨tree vs, .builtin "claim.caller" {}, default, []⟩) w free gens kept s := by
  intro args hpre hlay ord hord
  obtain ⟨vs, s₁, hlaid, hcode⟩ := hspec args hpre hlay ord hord
  have hal := layAllW_rest _ _ _ hlaid
  obtain ⟨k, r, s', s'', hrun, hsched, hfo, hcase, hos, hkp⟩ := thread_ends_C (prog := c.prog) (w := w) (t := tree vs) (s := s₁)
    (R := fun r s' => c.Ends s args vs s₁ r s' ∧ s'.os = s.os ∧ kept s'.heap)
    (Shared.asleep_of_life hal.2.2.2 hz)
    (wpC_mono hcode (by
      rintro fin s' ⟨f, e, h1, h2, h3, h4⟩
      exact ⟨f, e, ⟨h1, h2, h4⟩, leftWithCleanup_false_of_bare h3⟩) (by
      rintro e s' ⟨h1, h2, h3, h4⟩
      exact ⟨⟨h1, h2, h4⟩, leftWithCleanup_false_of_bare h3⟩))
  obtain ⟨eh, _, _, eo, _⟩ := Shared.forget_eq hfo
  have hcase := hcase.congr eh
  have hkp : kept s'.heap := eh ▸ hkp
  rw [← eo] at hos
  have hlife : s'.heap.life = s.heap.life := (runN_life _ _ _ hrun).trans hal.2.2.2
  refine ⟨vs, s₁, hlaid, k, _, s', hsched, ?_, (fun _ i x hx => by rw [hgens] at hx; simp at hx), hkp, by rw [hlife], Shared.rest_eq hos⟩
  rcases hcase with ⟨v, rfl, d1, d2, d3, d4, d5⟩ | ⟨e, ob, cls, rfl, d1, d2, d3, d4, d5⟩
  · exact .inl ⟨v, rfl, d1, d2, d3, fun b o y _ => d4 b o y, d5⟩
  · exact .inr ⟨e, ob, cls, rfl, d1, d2, d3, d4, fun b o y _ => d5 b o y⟩

abbrev WalkC (q : Program) (loose : List Str) (XP : (Str → Option Value) → Heap → Prop) (YP : World → Heap → Prop) (r : RowW) (d : DefRec) (kwd : List (Str × Expr)) : Prop :=
  ∀ (w : World) (s₀ s₁ : Shared) (mg mb : Str → Option Value), Ground q loose r.records XP w s₀ mg mb s₁.heap → YP w s₁.heap → ∀ (a : Addr) (o : Obj) (pm cd doc dV kV : Value), s₁.heap.get? a = some o →
    o.data = .func { docDef d.name d.params d.body d.scope pm cd doc with defaults := dV, kwdefaults := kV } → s₁.heap.CodeRec cd d.name → Dflts mg s₁.heap d.params kwd dV kV → mg d.name = some (.ref a) → s₁.gens = #[] →
    ∀ (args : List WData) (vals : List Value) (as : List Addr), r.claim.pre args = true → WData.layableAll args = true → ReadsAllW r.records (classAt s₀.heap) s₁.heap vals args as → WellAll w.params s₁.heap vals args → (∀ a ∈ as, (a == sysModules) = false) →
      wpC (model r.prog w) callerA (call (.ref a) vals) (fun v s' => GoodWG r.claim (classAt s₀.heap) (ExcName.means s₀.heap) args s₁ (.ok (.ret v)) s')
        (fun e s' => GoodWG r.claim (classAt s₀.heap) (ExcName.means s₀.heap) args s₁ (.error e) s') s₁

theorem PySem.W.holds_open {r : OpenRow} {q : Program} {loose : List Str} {Xt : Shared → Bool} {XP : (Str → Option Value) → Heap → Prop} {α : Type} {Yf : Shared → α} {Ya : World → α} {YP : World → Heap → Prop} {d : DefRec} {kwd : List (Str × Expr)} {N : Nat}
    (left : LeftO r.prog q loose Xt Yf Ya N) (hY : ∀ w s, Yf s = Ya w → YP w s.heap) (hYk : ∀ w h h', YP w h → (∀ b o, h.get? b = some o → h'.get? b = some o) → YP w h')
    (hX : ∀ s, Xt s = true → XP (s.heap.nsMap mainGlobals) s.heap) (hXk : ∀ mg h h', XP mg h → (∀ b o, h.get? b = some o → h'.get? b = some o) → XP mg h')
    (hdef : defOf q r.name = some (d, kwd)) (hp : r.prog.theDef r.name = some (d.params, d.body, d.scope)) (hk : kwWritten? d.params.kwonlyargs d.params.kw_defaults = some kwd) (hRf : ∀ s, Xt s = true → RecFacts r.records s.heap) (hwr : (!r.writes || r.records.isEmpty) = true)
    (k1 : r.wellSaid = true) (ok : (chainsOk q && opensWell r.prog && (frees r.toRowW && r.within.isEmpty)) = true) (hb : r.prog.bare) (hw : r.toRowW.promised)
    (call : WalkC q loose XP YP r.toRowW d kwd) : r.Holds := by
  refine ⟨k1, hw, ?_⟩
  obtain ⟨ok, k5⟩ := Bool.and_eq_true_iff.mp ok
  obtain ⟨hch, o1⟩ := Bool.and_eq_true_iff.mp ok
  obtain ⟨k5, k6⟩ := Bool.and_eq_true_iff.mp k5
  obtain ⟨hsame, hu, ha, hap, hm⟩ := frees_parts k5
  refine ⟨⟨hb, o1, by show r.makers.map _ = []; rw [hm]; rfl⟩, hw.witness, fun w => ⟨(left.behind hX hch w).1, fun s' hs' => ?_⟩⟩
  obtain ⟨s₀, hf, hg0, s, hT, hz, hgens, hg, G00, y⟩ := (left.behind (XP := fun mg h => XP mg h ∧ RecFacts r.records h) (fun s hs => ⟨hX s hs, hRf s hs⟩) hch w).2 s' hs'
  have G0 : Ground q loose [] XP w s (s.heap.nsMap mainGlobals) (s.heap.nsMap builtinsNs) s.heap := ⟨G00.T, G00.B, G00.D, G00.TE, G00.TD, G00.W, G00.X.1, G00.cls, G00.has, G00.apart, G00.once, G00.K⟩
  have RF := G00.X.2
  have hT' := hT
  refine ⟨s₀, hf, hg0, s, hT, fun n hn => ?_, RF.1, RF.2.1, ?_⟩
  · obtain rfl : n = r.name := by split at hn <;> simp_all
    exact pinned_of_view hg G0 hdef hp hk
  have hgens : s.gens = #[] := Array.eq_empty_of_size_eq_zero (beq_iff_eq.mp hgens)
  have G : Ground q loose r.records XP w s _ _ s.heap := RF.ground G0
  refine callFrom_C (c := r.claim) hz hgens fun args hpre hlay ord hord => ?_
  obtain ⟨⟨vs, s₁⟩, hlaid⟩ := Option.isSome_iff_exists.mp (layAllW_isSome (P := w.params) (ord := ord) G.has args r.args s (pre_splitW hpre).1)
  have keeps := layAllW_keeps _ _ _ hlaid
  have hal := layAllW_rest _ _ _ hlaid
  obtain ⟨as, hrd, hin, hold⟩ := reads_layAllW hord _ _ _ hlaid hlay s₁.heap (fun _ _ e => e)
  have L : Laid r.records w s s₁ args vs as := ⟨⟨ord, hord, hlaid⟩, hrd, hin, hold, keeps, hal.1.trans hgens, hal.2.2.1⟩
  have G₁ := G.keeps hXk keeps
  obtain ⟨a, o, pm, cd, doc, dV, kV, h1, h2, h3, h4, h5⟩ := G₁.fn hdef
  have h := call w s s₁ _ _ G₁ (hYk _ _ _ (hY w s y) keeps) a o pm cd doc dV kV h2 h3 h4 h5 (defOf_name hdef ▸ h1) L.gens args vs as hpre hlay L.reads L.well (L.low G.low)
  have hi := ident_freeW hu ha hap
  have hwi : r.claim.within = [] := List.isEmpty_iff.mp k6
  refine ⟨vs, s₁, hlaid, wpC_bindA (wpAny_nsGet G₁.T.g ?_)⟩
  rw [h1]
  refine wpC_bind (wpC_mono h (fun v s' g => wpC_pure ⟨_, rfl, ?_⟩) fun e s' g => ?_)
  · have z := g.laid (c := r.claim) hsame hwi hi L
    exact ⟨z.1, z.2.1, z.2.2, fun q => ⟨namesKept_of hT' hg (r.keeps) keeps g.2.1.old, noTable hwr q⟩⟩
  · have z := g.laid (c := r.claim) hsame hwi hi L
    exact ⟨z.1, z.2.1, z.2.2, fun q => ⟨namesKept_of hT' hg (r.keeps) keeps g.2.1.old, noTable hwr q⟩⟩

set_option maxHeartbeats 8000000 in
open_top hd for PySem.Challenge.rw_je0012_01
end Mine
namespace Vi
open PySem PySem.W PySem.Calls PyProof.Rows

noncomputable abbrev pw := PySem.Challenge.pw_je0012_01
noncomputable abbrev q := Mine.hd.view_39
noncomputable abbrev lse := looseW Mine.hd.view_39 [Str.ofString "decode_varint"]

/-- what a call keeps: all objects but those named -/
def Chg (as : List Addr) (h h' : Heap) : Prop := ∀ b o, h.get? b = some o → b ∉ as → h'.get? b = some o
theorem Chg.refl {as : List Addr} {h : Heap} : Chg as h h := fun _ _ e _ => e
theorem Chg.trans {as : List Addr} {h h' h'' : Heap} (x : Chg as h h') (y : Chg as h' h'') : Chg as h h'' := fun b o e n => y b o (x b o e n) n
theorem Chg.of_stays {as : List Addr} {h h' : Heap} (x : h.StaysIn h') : Chg as h h' := fun b o e _ => x b o e
theorem Chg.mono {as bs : List Addr} {h h' : Heap} (x : Chg as h h') (y : ∀ a ∈ as, a ∈ bs) : Chg bs h h' := fun b o e n => x b o e fun z => n (y b z)

theorem fr_chg {g h h' : Heap} {L : Addr} {m : Str → Option Value} {as : List Addr} (F : Fr g L h m) (ha : ∀ a ∈ as, g.get? a = none ∧ a ≠ L) (c : Chg as h h') : Fr g L h' m := by
  obtain ⟨⟨oL, es, ep, hL, r⟩, hk, hb⟩ := F
  exact ⟨⟨oL, es, ep, c _ _ hL fun z => (ha _ z).2 rfl, r⟩, (fun b o e => c b o (hk b o e) fun z => by (rw [(ha _ z).1] at e; cases e)), hb⟩
theorem news_chg {g h h' : Heap} {L : Addr} {news : List (Addr × Obj)} {as : List Addr} (N : News g L h news) (c : Chg as h h') (hn : ∀ p ∈ news, p.1 ∉ as) : News g L h' news :=
  fun p hp => ⟨c _ _ (N p hp).1 (hn p hp), (N p hp).2⟩

theorem callF {Kf : Frag} {prog p : Program} {loose : List Str} {mean : ExcName → Option Value} {mg mb : Str → Option Value} {w : World} {A : Around} {R : Result → Shared → Prop} {s : Shared} {h₀ : Heap}
    {name qual : Str} {params : Arguments} {body : List Stmt} {scope : Scope} {dV pm cd doc : Value} {a : Addr} {o : Obj} {args : Args} {binds : List (Str × Value)}
    (mods : List (Addr × Obj)) (hst : h₀.StaysIn s.heap) (X : Kf.In h₀) (T : Top p loose mean mg mb h₀) (hm : ∀ p ∈ mods, s.heap.get? p.1 = some p.2 ∧ h₀.get? p.1 = none)
    (hroom : A.depth < recursionLimit) (ho : Kf.lookup a = some o) (hdata : o.data = .func (methDefD name qual params body scope pm cd doc dV)) (hcd : codeIn Kf cd qual = true)
    (hbind : BindsTo s (methDefD name qual params body scope pm cd doc dV) args binds) (hloc : ∀ x ∈ binds, scope.names.lookup x.1 = some .local)
    (h : ∀ g L h₁ tk, Fr g L h₁ (fun x => binds.reverse.lookup x) → News g L h₁ mods → Kf.In g → Top p loose mean mg mb g → h₀.StaysIn g →
      (∀ b o, s.heap.get? b = some o → b ∉ mods.map Prod.fst → g.get? b = some o) →
      wpAny (model prog w) (A.deeper (envOf qual scope L a cd)) (execs body (envOf qual scope L a cd))
        (fun f s' => R (.ok (.ret (match f with | .ret v => v | _ => .none))) s')
        (fun e s' => wpAny (model prog w) (A.deeper (envOf qual scope L a cd)) (leaving (envOf qual scope L a cd) e) (fun _ s'' => R (.error e) s'') (fun e' s'' => R (.error e') s'') s')
        { s with heap := h₁, toks := tk })
    (hco : scope.isCoroutine = false := by rfl) (hgen : scope.isGenerator = false := by rfl) (hk : scope.kind = .function := by rfl) (hcell : ∀ x ∈ scope.names, x.2 ≠ .cell := by decide) :
    codeAny (model prog w) A (.call (.ref a) args) R s := by
  refine call_methW hroom (hst _ _ (X _ _ ho)) hdata (T.nolimit.keeps hst) (codeRec_of (X.keeps hst) hcd) hbind hloc (fun h₁ F => ?_) hco hgen hk hcell
  have st : ∀ b o, h₀.get? b = some o → (hideAll s.heap (mods.map Prod.fst)).get? b = some o := fun b o e => hideAll_get _ (hst b o e) fun z => by
    obtain ⟨p, hp, rfl⟩ := List.mem_map.mp z
    rw [(hm p hp).2] at e; cases e
  refine h (hideAll s.heap (mods.map Prod.fst)) _ h₁ _ ⟨F.ns, fun b o e => F.keep b o (of_hideAll _ e), Nat.le_of_eq (hideAll_size _ _)⟩ (fun p hp => ⟨F.keep _ _ (hm p hp).1, Nat.ne_of_lt (Heap.lt_size (hm p hp).1), hideAll_none _ (List.mem_map_of_mem hp)⟩)
    (X.keeps st) (T.keeps st) st fun b o e n => hideAll_get _ e n

theorem fr_same {g h : Heap} {L : Addr} {m m' : Str → Option Value} (F : Fr g L h m) (e : ∀ y, m' y = m y) : Fr g L h m' := by
  have : m' = m := funext e
  subst this; exact F

/-- a stop for the walk -/
structure Hold (P : Prop) : Prop where
  out : P
/-- a loop's turn is through: the word holds again, with less left -/
structure Back (I : Nat → Shared → Prop) (n : Nat) (s : Shared) : Prop where
  out : ∃ m, m < n ∧ I m s
theorem while_I {prog : Program} {w : World} {A : Around} {E : Value → Shared → Prop} {Q : Flow → Shared → Prop} {s : Shared} {test : Expr} {body orelse : List Stmt} {env : Env} {pos : Pos} (I : Nat → Shared → Prop)
    (n : Nat) (h : I n s)
    (turn : ∀ n s, I n s →
      wpAny (model prog w) A (isTrue test env (eval test env)) (fun b s₂ =>
        if b then wpAny (model prog w) A (execs body env) (fun f s₃ => match f with
            | .next | .cont => Back I n s₃
            | .brk => Q .next s₃
            | .ret v => Q (.ret v) s₃) (notedBy (model prog w) A env (cameBackBy (model prog w) A env E)) s₂
        else wpAny (model prog w) A (execs orelse env) Q (notedBy (model prog w) A env (cameBackBy (model prog w) A env E)) s₂)
        (notedBy (model prog w) A env (cameBackBy (model prog w) A env E)) s) :
    wpAny (model prog w) A (exec (.While test body orelse pos) env) Q E s := by
  refine wpAny_While (codeAny_whileLoop I (fun n s hI => ?_) n h)
  refine wpAny_mono (turn n s hI) (fun b s₂ h₂ => ?_) fun _ _ x => x
  cases b with
  | false => exact h₂
  | true =>
    refine wpAny_mono h₂ (fun f s₃ h₃ => ?_) fun _ _ x => x
    cases f with
    | next => exact h₃.out
    | cont => exact h₃.out
    | brk => exact h₃
    | ret v => exact h₃

/-- the same where what is raised passes the loop's own frame -/
theorem while_P {prog : Program} {w : World} {A : Around} {E : Value → Shared → Prop} {Q : Flow → Shared → Prop} {s : Shared} {test : Expr} {body orelse : List Stmt} {env : Env} {pos : Pos} (I : Nat → Shared → Prop)
    (n : Nat) (h : I n s) (hE : PassesOwn (model prog w) A env E)
    (turn : ∀ n s, I n s →
      wpAny (model prog w) A (isTrue test env (eval test env)) (fun b s₂ =>
        if b then wpAny (model prog w) A (execs body env) (fun f s₃ => match f with
            | .next | .cont => Back I n s₃
            | .brk => Q .next s₃
            | .ret v => Q (.ret v) s₃) E s₂
        else wpAny (model prog w) A (execs orelse env) Q E s₂) E s) :
    wpAny (model prog w) A (exec (.While test body orelse pos) env) Q E s := by
  refine while_I I n h fun n s hI => wpAny_mono (turn n s hI) (fun b s₂ h₂ => ?_) hE
  cases b with
  | false => exact wpAny_mono h₂ (fun _ _ x => x) hE
  | true => exact wpAny_mono h₂ (fun _ _ x => x) hE

/-- a range's iterator, written out -/
abbrev ri (x left : Int) : Obj := { cls := .type "range_iterator", dict := none, data := .fields #[rawInt x, rawInt left, rawInt 1], slots := #[] }
section
variable {prog : Program} {w : World} {A : Around} {E : Value → Shared → Prop} {s : Shared} {g : Heap} {L : Addr} {m : Str → Option Value} {news news' : List (Addr × Obj)}
theorem range_iter_N {r : Addr} {a b : Int} {t u v : Tok} {Q : Value → Shared → Prop} (F : Fr g L s.heap m) (N : News g L s.heap news) (hr : IsRange s.heap r a b 1 t u v) (hsmall : Builtin.Range.small a b 1 = true)
    (h : ∀ h' it, Fr g L h' m → News g L h' ((it, ri a (Builtin.Range.rangeSize a b 1)) :: news) → (∀ p ∈ news, p.1 < it) → Q (.ref it) { s with heap := h' }) : wpAny (model prog w) A (pyIter (.ref r)) Q E s :=
  wpAny_pyIter_range hr hsmall (h _ _ (F.push _) (N.push F _) fun p hp => Heap.lt_size (N p hp).1)
theorem range_next_N {it : Addr} {x left : Int} {Q : Option Value → Shared → Prop} (F : Fr g L s.heap m) (N : News g L s.heap news) (U : Upd it (ri x left) (ri (x + 1) (left - 1)) news news') (hl : 0 < left)
    (h : ∀ h' t tk, Fr g L h' m → News g L h' news' → Q (some (.int x t)) { s with heap := h', toks := tk }) : wpAny (model prog w) A (pyNext (.ref it)) Q E s := by
  obtain ⟨pre, post, rfl, rfl, h1, h2⟩ := U.split
  have z := N (it, ri x left) (by simp)
  exact wpAny_pyNext_range_item z.1 hl fun h' hi hs => h h' _ _ (F.change hs z.2.1 z.2.2) (news_set N h1 h2 hs hi)
theorem range_end_N {it : Addr} {x left : Int} {Q : Option Value → Shared → Prop} (hh : A.handled = none) (F : Fr g L s.heap m) (N : News g L s.heap ((it, ri x left) :: news)) (hn : ∀ p ∈ news, p.1 ≠ it) (hl : left ≤ 0)
    (h : ∀ h', Fr g L h' m → News g L h' news → Q none { s with heap := h' }) : wpAny (model prog w) A (pyNext (.ref it)) Q E s := by
  have z := N (it, ri x left) (.head _)
  refine wpAny_pyNext_range_end hh z.1 hl fun h' he => h h' ?_ fun p hp => ⟨he _ _ (hn p hp) (N p (.tail _ hp)).1, (N p (.tail _ hp)).2⟩
  obtain ⟨oL, es, ep, hL, r⟩ := F.ns
  exact ⟨⟨oL, es, ep, he _ _ (Ne.symm z.2.1) hL, r⟩, (fun b o e => he b o (fun q => by rw [q, z.2.2] at e; cases e) (F.keep b o e)), F.above⟩
theorem loop_I {target : Expr} {it : Value} {body orelse : List Stmt} {env : Env} {R : Result → Shared → Prop} (I : Nat → Shared → Prop) (n : Nat) (h : I n s)
    (turn : ∀ n s, I n s → wpAny (model prog w) A (pyNext it) (fun r s₁ => match r with
      | none => wpAny (model prog w) A (execs orelse env) (fun f s₃ => R (.ok f) s₃) (notedBy (model prog w) A env fun e s' => R (.error e) s') s₁
      | some v => wpAny (model prog w) A (assign target env v) (fun _ s₂ => wpAny (model prog w) A (execs body env) (fun f s₃ => match f with
          | .next | .cont => Back I n s₃
          | .brk => R (.ok .next) s₃
          | .ret v => R (.ok (.ret v)) s₃) (notedBy (model prog w) A env fun e s' => R (.error e) s') s₂) (notedBy (model prog w) A env fun e s' => R (.error e) s') s₁) (notedBy (model prog w) A env fun e s' => R (.error e) s') s)
    (ht : ∀ v, letOwnedTupleGo target it v = pure () := by intro _; rfl) : codeAny (model prog w) A (.forLoop target it body orelse env) R s := by
  refine codeAny_forLoop I (fun n s hI => wpAny_mono (turn n s hI) (fun r s₁ h₁ => ?_) fun _ _ x => x) n h ht
  cases r with
  | none => exact h₁
  | some v =>
    refine wpAny_mono h₁ (fun _ s₂ h₂ => wpAny_mono h₂ (fun f s₃ h₃ => ?_) fun _ _ x => x) fun _ _ x => x
    cases f with
    | next => exact h₃.out
    | cont => exact h₃.out
    | brk => exact h₃
    | ret v => exact h₃
end

/-- a made tuple, written out -/
abbrev tup (vs : List Value) : Obj := { cls := .type "tuple", data := .seq vs.toArray }
/-- a made list, written out -/
abbrev lst (vs : List Value) (n : Nat := 0) : Obj := { cls := .type "list", data := .seq vs.toArray n }
end Vi
namespace Vi
open PySem PySem.W PySem.Calls PyProof.Rows

/-! ## Plain numbers: the double, the octets, what octets write -/
def zz (v : Int) : Nat := if 0 ≤ v then (2 * v).toNat else (-2 * v - 1).toNat
def uz (n : Nat) : Int := if n % 2 = 0 then ((n / 2 : Nat) : Int) else -((n / 2 : Nat) : Int) - 1
theorem zz_pos {v : Int} (h : 0 ≤ v) : (zz v : Int) = 2 * v := by unfold zz; rw [if_pos h]; omega
theorem zz_neg {v : Int} (h : ¬ 0 ≤ v) : (zz v : Int) = -2 * v - 1 := by unfold zz; rw [if_neg h]; omega
theorem uz_zz (v : Int) : uz (zz v) = v := by
  unfold uz zz
  split <;> split <;> omega
theorem zz_lt {v : Int} (h1 : -(2 ^ 63) ≤ v) (h2 : v < 2 ^ 63) : zz v < 2 ^ 64 := by
  unfold zz
  split <;> omega
theorem bitAnd_neg1 (x : Int) : Builtin.bitAnd x (-1) = x := by
  by_cases hx : 0 ≤ x
  · unfold Builtin.bitAnd
    have h0 : decide (0 ≤ (-1 : Int)) = false := by decide
    rw [decide_eq_true hx, h0]
    have e : (Builtin.bitNot (-1)).toNat = 0 := by decide
    dsimp only
    rw [e, Nat.and_zero]
    omega
  · unfold Builtin.bitAnd
    have h0 : decide (0 ≤ (-1 : Int)) = false := by decide
    rw [decide_eq_false hx, h0]
    have e : (Builtin.bitNot (-1)).toNat = 0 := by decide
    dsimp only
    rw [e, Nat.or_zero]
    unfold Builtin.bitNot
    omega
theorem bitXor_neg1 (x : Int) : Builtin.bitXor x (-1) = -x - 1 := by
  rw [bitXor_and, bitAnd_neg1]
  omega
theorem zig_eq {v : Int} (h1 : -(2 ^ 63) ≤ v) (h2 : v < 2 ^ 63) : Builtin.bitXor (v * 2 ^ Int.toNat 1) (v.fdiv (2 ^ Int.toNat 63)) = (zz v : Int) := by
  have e1 : ((2 : Int) ^ Int.toNat 1) = 2 := by decide
  have e2 : ((2 : Int) ^ Int.toNat 63) = 9223372036854775808 := by decide
  rw [e1, e2]
  unfold zz
  have hf := fdiv_fmod_facts v 9223372036854775808
  by_cases h : 0 ≤ v
  · have : v.fdiv 9223372036854775808 = 0 := by
      rw [Int.fdiv_eq_ediv_of_nonneg _ (by decide)]; omega
    rw [this, bitXor_zero, if_pos h]; omega
  · have : v.fdiv 9223372036854775808 = -1 := by
      rw [Int.fdiv_eq_ediv_of_nonneg _ (by decide)]; omega
    rw [this, bitXor_neg1, if_neg h]; omega

def octs (n : Nat) : List Nat := if n < 128 then [n] else (128 + n % 128) :: octs (n / 128)
termination_by n
decreasing_by omega
theorem octs_small {n : Nat} (h : n < 128) : octs n = [n] := by rw [octs, if_pos h]
theorem octs_big {n : Nat} (h : ¬ n < 128) : octs n = (128 + n % 128) :: octs (n / 128) := by rw [octs, if_neg h]
theorem octs_ne (n : Nat) : octs n ≠ [] := by rw [octs]; split <;> simp
theorem octs_lt256 : ∀ (n : Nat), ∀ x ∈ octs n, x < 256 := by
  intro n
  induction n using Nat.strongRecOn with
  | ind n ih =>
    intro x hx
    by_cases h : n < 128
    · rw [octs_small h] at hx; rcases List.mem_singleton.mp hx with rfl; omega
    · rw [octs_big h] at hx
      rcases List.mem_cons.mp hx with rfl | hx
      · omega
      · exact ih (n / 128) (by omega) x hx
theorem octs_len : ∀ (k n : Nat), n < 128 ^ (k + 1) → (k = 0 ∨ 128 ^ k ≤ n) → (octs n).length = k + 1
  | 0, n, h, _ => by rw [octs_small (by simpa using h)]; rfl
  | k + 1, n, h, h' => by
    have hk : 128 ^ (k + 1) ≤ n := h'.resolve_left (by omega)
    have hp : 0 < 128 ^ k := Nat.pow_pos (by decide)
    have e1 : 128 ^ (k + 1) = 128 ^ k * 128 := Nat.pow_succ ..
    have e2 : 128 ^ (k + 2) = 128 ^ (k + 1) * 128 := Nat.pow_succ ..
    have hb : ¬ n < 128 := by omega
    rw [octs_big hb, List.length_cons, octs_len k (n / 128) (by omega) (.inr (by omega))]
theorem octs_len_le : ∀ (k n : Nat), n < 128 ^ (k + 1) → (octs n).length ≤ k + 1
  | 0, n, h => by rw [octs_small (by simpa using h)]; exact Nat.le_refl _
  | k + 1, n, h => by
    by_cases hb : n < 128
    · rw [octs_small hb]; simp
    · have e2 : 128 ^ (k + 2) = 128 ^ (k + 1) * 128 := Nat.pow_succ ..
      rw [octs_big hb, List.length_cons]
      have := octs_len_le k (n / 128) (by omega)
      omega
theorem octs_len_pos (n : Nat) : 0 < (octs n).length := List.length_pos_iff.mpr (octs_ne n)

/-- the octets as bytes -/
def bys (n : Nat) : Array UInt8 := ((octs n).map UInt8.ofNat).toArray
theorem bys_size (n : Nat) : (bys n).size = (octs n).length := by simp [bys]

inductive Res where
  | few | far
  | num (v : Int) (e : Nat)
def goR (b : Array UInt8) (at' : Nat) : Nat → Nat → Nat → Res
  | 0, _, _ => .far
  | f + 1, k, tot => match b[at' + k]? with
    | none => .few
    | some x => if x.toNat < 128 then .num (uz (tot + x.toNat % 128 * 2 ^ (7 * k))) (at' + k + 1) else goR b at' f (k + 1) (tot + x.toNat % 128 * 2 ^ (7 * k))
def readR (b : Array UInt8) (at' : Nat) : Res := goR b at' 10 0 0

theorem goR_few {b : Array UInt8} {k i tot : Nat} (h1 : i < 10) (h2 : b.size ≤ k + i) : goR b k (10 - i) i tot = .few := by
  obtain ⟨f, hf⟩ : ∃ f, 10 - i = f + 1 := ⟨9 - i, by omega⟩
  rw [hf, goR, Array.getElem?_eq_none h2]
theorem getD_at {b : Array UInt8} {k : Nat} (h : k < b.size) : b[k]? = some (b.getD k 0) := by
  rw [Array.getD_eq_getD_getElem?, Array.getElem?_eq_getElem h]; rfl
theorem goR_num {b : Array UInt8} {k i tot : Nat} (h1 : i < 10) (h2 : k + i < b.size) (h3 : (b.getD (k + i) 0).toNat < 128) :
    goR b k (10 - i) i tot = .num (uz (tot + (b.getD (k + i) 0).toNat % 128 * 2 ^ (7 * i))) (k + i + 1) := by
  obtain ⟨f, hf⟩ : ∃ f, 10 - i = f + 1 := ⟨9 - i, by omega⟩
  rw [hf, goR, getD_at h2]
  dsimp only
  rw [if_pos h3]
theorem goR_more {b : Array UInt8} {k i tot : Nat} (h1 : i < 10) (h2 : k + i < b.size) (h3 : ¬ (b.getD (k + i) 0).toNat < 128) :
    goR b k (10 - i) i tot = goR b k (10 - (i + 1)) (i + 1) (tot + (b.getD (k + i) 0).toNat % 128 * 2 ^ (7 * i)) := by
  obtain ⟨f, hf⟩ : ∃ f, 10 - i = f + 1 := ⟨9 - i, by omega⟩
  rw [hf, goR, getD_at h2]
  dsimp only
  rw [if_neg h3]
  congr 1
  omega
theorem tot_lt {tot x i : Nat} (h : tot < 2 ^ (7 * i)) : tot + x % 128 * 2 ^ (7 * i) < 2 ^ (7 * (i + 1)) := by
  have e : 2 ^ (7 * (i + 1)) = 128 * 2 ^ (7 * i) := by rw [Nat.mul_add, Nat.pow_add, Nat.mul_comm]
  rw [e]
  have : x % 128 * 2 ^ (7 * i) ≤ 127 * 2 ^ (7 * i) := Nat.mul_le_mul_right _ (by omega)
  omega
theorem uz_even {z : Int} {n : Nat} (hz : z = n) (h : z.fmod 2 = 0) : z.fdiv 2 = uz n := by
  subst hz
  rw [Int.fmod_eq_emod_of_nonneg _ (by decide)] at h
  rw [Int.fdiv_eq_ediv_of_nonneg _ (by decide)]
  unfold uz
  rw [if_pos (by omega)]
  omega
theorem uz_odd {z : Int} {n : Nat} (hz : z = n) (h : z.fmod 2 ≠ 0) : -(z.fdiv 2) - 1 = uz n := by
  subst hz
  rw [Int.fmod_eq_emod_of_nonneg _ (by decide)] at h
  rw [Int.fdiv_eq_ediv_of_nonneg _ (by decide)]
  unfold uz
  rw [if_neg (by omega)]
  omega

theorem goR_octs (b : Array UInt8) (at' : Nat) : ∀ (f k tot n : Nat), (octs n).length ≤ f → (∀ i x, (octs n)[i]? = some x → b[at' + k + i]? = some (UInt8.ofNat x)) →
    goR b at' f k tot = .num (uz (tot + n * 2 ^ (7 * k))) (at' + k + (octs n).length)
  | 0, k, tot, n, h, _ => absurd h (Nat.not_le.mpr (octs_len_pos n))
  | f + 1, k, tot, n, h, hb => by
    by_cases hn : n < 128
    · have h0 := hb 0 n (by rw [octs_small hn]; rfl)
      rw [Nat.add_zero] at h0
      unfold goR
      rw [h0]
      have e : (UInt8.ofNat n).toNat = n := by rw [UInt8.toNat_ofNat']; omega
      dsimp only
      rw [e, if_pos hn, octs_small hn, Nat.mod_eq_of_lt hn]
      rfl
    · have h0 := hb 0 (128 + n % 128) (by rw [octs_big hn]; rfl)
      rw [Nat.add_zero] at h0
      unfold goR
      rw [h0]
      have e : (UInt8.ofNat (128 + n % 128)).toNat = 128 + n % 128 := by rw [UInt8.toNat_ofNat']; omega
      dsimp only
      rw [e, if_neg (by omega)]
      rw [octs_big hn, List.length_cons] at h
      rw [goR_octs b at' f (k + 1) _ (n / 128) (by omega) (fun i x hi => ?_), octs_big hn, List.length_cons]
      · congr 1
        · congr 1
          have e1 : (128 + n % 128) % 128 = n % 128 := by omega
          have e2 : 2 ^ (7 * (k + 1)) = 128 * 2 ^ (7 * k) := by rw [Nat.mul_add, Nat.pow_add, Nat.mul_comm]
          rw [e1, e2, Nat.add_assoc, ← Nat.mul_assoc, ← Nat.add_mul]
          congr 2
          omega
        · omega
      · have := hb (i + 1) x (by rw [octs_big hn]; exact hi)
        rw [show at' + (k + 1) + i = at' + k + (i + 1) by omega]
        exact this
/-- octets that stand in a run of bytes are read -/
theorem readR_octs {b pre post : Array UInt8} {n : Nat} (hn : n < 128 ^ 10) (hb : b = pre ++ bys n ++ post) : readR b pre.size = .num (uz n) (pre.size + (octs n).length) := by
  unfold readR
  rw [goR_octs b pre.size 10 0 0 n (octs_len_le 9 n hn) (fun i x hi => ?_)]
  · simp
  · subst hb
    have hlt : i < (octs n).length := by
      obtain ⟨h, _⟩ := List.getElem?_eq_some_iff.mp hi; exact h
    rw [Nat.add_zero, Array.append_assoc, Array.getElem?_append_right (by omega), Nat.add_sub_cancel_left, Array.getElem?_append_left (by rw [bys_size]; exact hlt)]
    unfold bys
    simp [hi]

theorem bits129 : ∀ x : Nat, x < 256 → (Builtin.bitAnd (x : Int) 129 = 0 ↔ (x < 128 ∧ x % 2 = 0)) := by decide +kernel
theorem bits128 : ∀ x : Nat, x < 256 → (Builtin.bitAnd (x : Int) 128 = 0 ↔ x < 128) := by decide +kernel
theorem fdiv_one (z : Int) : z.fdiv (2 ^ Int.toNat 1) = z.fdiv 2 := by rw [show ((2 : Int) ^ Int.toNat 1) = 2 by decide]
theorem dec_even {x : Nat} (hx : x < 256) (h : Builtin.bitAnd (x : Int) 129 = 0) : x < 128 ∧ (x : Int).fdiv (2 ^ Int.toNat 1) = uz x := by
  obtain ⟨h1, h2⟩ := (bits129 x hx).mp h
  refine ⟨h1, ?_⟩
  rw [fdiv_one]
  refine uz_even rfl ?_
  rw [Int.fmod_eq_emod_of_nonneg _ (by decide)]; omega
theorem dec_odd {x : Nat} (hx : x < 256) (h : Builtin.bitAnd (x : Int) 129 ≠ 0) (h' : Builtin.bitAnd (x : Int) 128 = 0) : x < 128 ∧ Builtin.bitXor ((x : Int).fdiv (2 ^ Int.toNat 1)) (Builtin.bitNot 0) = uz x := by
  have h1 := (bits128 x hx).mp h'
  have h2 : ¬ x % 2 = 0 := fun e => h ((bits129 x hx).mpr ⟨h1, e⟩)
  refine ⟨h1, ?_⟩
  rw [fdiv_one, show Builtin.bitNot 0 = -1 by decide, bitXor_neg1, show -((x : Int).fdiv 2) - 1 = uz x from uz_odd rfl ?_]
  rw [Int.fmod_eq_emod_of_nonneg _ (by decide)]; omega
theorem dec_more {x : Nat} (hx : x < 256) (h : Builtin.bitAnd (x : Int) 128 ≠ 0) : ¬ x < 128 := fun e => h ((bits128 x hx).mpr e)
theorem dec_last {x : Nat} (hx : x < 256) (h : Builtin.bitAnd (x : Int) 128 = 0) : x < 128 := (bits128 x hx).mp h
theorem dec_ret {z : Int} {n : Nat} (hz : z = n) : Builtin.bitXor (z.fdiv (2 ^ Int.toNat 1)) (-(Builtin.bitAnd z 1)) = uz n := by
  rw [fdiv_one, bitAnd_m1]
  by_cases h : n % 2 = 0
  · rw [show z % 2 = 0 by omega, show -(0 : Int) = 0 by decide, bitXor_zero]
    refine uz_even hz ?_
    rw [Int.fmod_eq_emod_of_nonneg _ (by decide)]; omega
  · rw [show z % 2 = 1 by omega, bitXor_neg1]
    refine uz_odd hz ?_
    rw [Int.fmod_eq_emod_of_nonneg _ (by decide)]; omega
theorem and_apart {t y s : Nat} (h : t < 2 ^ s) : t &&& (y * 2 ^ s) = 0 := by
  apply Nat.eq_of_testBit_eq
  intro j
  rw [Nat.testBit_and, Nat.zero_testBit, Nat.testBit_mul_two_pow]
  by_cases hj : s ≤ j
  · rw [Nat.testBit_lt_two_pow (Nat.lt_of_lt_of_le h (Nat.pow_le_pow_right (by decide) hj)), Bool.false_and]
  · rw [decide_eq_false hj, Bool.false_and, Bool.and_false]
theorem or_step {t x i : Nat} {sh : Int} (hs : sh = ((7 * i : Nat) : Int)) (h : t < 2 ^ (7 * i)) :
    Builtin.bitOr (t : Int) (Builtin.bitAnd (x : Int) 127 * 2 ^ sh.toNat) = ((t + x % 128 * 2 ^ (7 * i) : Nat) : Int) := by
  have e : Builtin.bitAnd (x : Int) 127 * 2 ^ sh.toNat = ((x % 128 * 2 ^ (7 * i) : Nat) : Int) := by
    rw [bitAnd_m7, show sh.toNat = 7 * i by omega]
    push_cast
    rfl
  rw [e, bitOr_and, bitAnd_pp (by omega) (by omega)]
  have e2 : ((t : Int).toNat &&& (((x % 128 * 2 ^ (7 * i) : Nat) : Int)).toNat) = 0 := by
    rw [Int.toNat_natCast, Int.toNat_natCast]
    exact and_apart h
  rw [e2]
  push_cast
  omega
end Vi
namespace Vi
open PySem PySem.W PySem.Calls PyProof.Rows

/-- a bytearray, written out -/
abbrev ba (b : Array UInt8) : Obj := { cls := .type "bytearray", data := .bytearray b }

theorem owner_ba : Manifest.owners.lookup (String.ofList ['y', 'a', 'r', 'r', 'a', 'e', 't', 'y', 'b'].reverse) = some Manifest.sig_bytearray := by kernel_rfl
theorem slot_ba_len : Slot "bytearray" "__len__" "bytearray.__len__" :=
  .of (owner := "bytearray") (n := "__len__") (by rw [typeLookup_type, builtinLookup_eq_fast]; kernel_rfl) (by decide +kernel) (by decide +kernel) (by decide +kernel)
    (by first | exact .inl (by decide +kernel) | exact .inr (by decide +kernel)) (by rw [isSubtype_type]; kernel_rfl)
theorem entry_ba_len : entryFor table "bytearray.__len__" = some Builtin.«bytearray.__len__» := entryFor_of_tree (by kernel_rfl)
theorem args_ba_len (a : Value) : argsOk "bytearray.__len__" ⟨[a], []⟩ := by
  unfold argsOk; rw [signature?_of (id := "bytearray.__len__") (n := ['_', '_', 'n', 'e', 'l', '_', '_']) (o := ['y', 'a', 'r', 'r', 'a', 'e', 't', 'y', 'b']) (by kernel_rfl) owner_ba]; kernel_rfl
theorem slot_ba_getitem : Slot "bytearray" "__getitem__" "bytearray.__getitem__" :=
  .of (owner := "bytearray") (n := "__getitem__") (by rw [typeLookup_type, builtinLookup_eq_fast]; kernel_rfl) (by decide +kernel) (by decide +kernel) (by decide +kernel)
    (by first | exact .inl (by decide +kernel) | exact .inr (by decide +kernel)) (by rw [isSubtype_type]; kernel_rfl)
theorem entry_ba_getitem : entryFor table "bytearray.__getitem__" = some Builtin.«bytearray.__getitem__» := entryFor_of_tree (by kernel_rfl)
theorem args_ba_getitem (a b : Value) : argsOk "bytearray.__getitem__" ⟨[a, b], []⟩ := by
  unfold argsOk; rw [signature?_of (id := "bytearray.__getitem__") (n := ['_', '_', 'm', 'e', 't', 'i', 't', 'e', 'g', '_', '_']) (o := ['y', 'a', 'r', 'r', 'a', 'e', 't', 'y', 'b']) (by kernel_rfl) owner_ba]; kernel_rfl

section
variable {prog : Program} {w : World} {A : Around} {E : Value → Shared → Prop} {s : Shared} {a : Addr} {b : Array UInt8}

theorem ba_typeIs (h : s.heap.get? a = some (ba b)) : s.TypeIs (.ref a) "bytearray" := ⟨_, h, rfl⟩
theorem payload_ba {Q : Array UInt8 → Shared → Prop} (h : s.heap.get? a = some (ba b)) (hQ : Q b s) : wpAny (model prog w) A (Builtin.Bytes.payload (.ref a)) Q E s := by
  unfold Builtin.Bytes.payload Builtin.Bytes.payload?
  exact wpAny_bind (wpAny_bind (wpAny_load h (wpAny_pure (wpAny_pure hQ))))

theorem len_ba {Q : Value → Shared → Prop} (h : s.heap.get? a = some (ba b)) (hfit : b.size ≤ sizeLine) (hQ : ∀ tk t, Q (.int b.size t) { s with toks := tk }) : wpAny (model prog w) A (call (.builtin "len") [.ref a]) Q E s := by
  have hT := ba_typeIs h
  rw [sizeLine_eq] at hfit
  refine Calls.call_function_entry kind_len plain_len entry_len (args_len1 _) ?_
  unfold Builtin.«len»
  refine wpAny_bind (m := oneArg "len" _) (wpAny_pure ?_)
  refine wpAny_bind (m := callSpecial? (.ref a) (Str.ofString "__len__")) (wpAny_callSpecial?_slot (name := Str.ofString "__len__") hT slot_ba_len (wpAny_call_entry slot_ba_len hT entry_ba_len ?_ (args_ba_len _)))
  unfold Builtin.«bytearray.__len__»
  show wpAny _ _ (Builtin.Bytes.payload (.ref a) >>= _) _ _ s
  refine wpAny_bind (payload_ba h (wpAny_bind (wpAny_mkInt (wpAny_pure ⟨_, rfl, ?_⟩))))
  refine wpAny_bind (wpAny_holding (wpAny_pure ?_))
  refine wpAny_bind (wpAny_letGo ?_)
  show wpAny _ _ (if (b.size : Int) < 0 then _ else _) _ _ _
  rw [if_neg (by omega)]
  show wpAny _ _ (if (b.size : Int) ≥ 2 ^ 63 then _ else _) _ _ _
  rw [if_neg (by omega)]
  exact wpAny_bind (wpAny_mkInt (wpAny_pure ⟨_, rfl, hQ _ _⟩))

theorem seqIdx_nat (k n : Nat) : seqIndex? (k : Int) n = if k < n then some k else none := by
  have hn : ¬ (k : Int) < 0 := by omega
  unfold seqIndex?
  simp only [if_neg hn]
  by_cases h : k < n
  · rw [if_pos h, if_pos (by simp only [Bool.and_eq_true, decide_eq_true_eq]; omega)]; rfl
  · rw [if_neg h, if_neg (by simp only [Bool.and_eq_true, decide_eq_true_eq]; omega)]
theorem slotArgs_item (x y : Value) : slotArgs "__getitem__" 1 ⟨[x, y], []⟩ = pure (x, [y]) := by kernel_rfl
theorem subscript_int {k : Int} {u : Tok} {Q : Option Int → Shared → Prop} (hr : Builtin.Bytes.fitsIndex k = true) (hQ : Q (some k) s) : wpAny (model prog w) A (Builtin.Bytes.subscript? (.int k u)) Q E s := by
  unfold Builtin.Bytes.subscript?
  refine wpAny_bind (wpAny_specialOf (typeIs_int s k u) F.slot_int_index.lookup ?_)
  show wpAny _ A (if (!Builtin.Bytes.fitsIndex k) = true then _ else pure (some k)) _ E s
  rw [hr]
  exact wpAny_pure hQ
theorem fitsB {k : Int} (h0 : 0 ≤ k) (h1 : k < 2 ^ 63) : Builtin.Bytes.fitsIndex k = true := by
  simp only [Builtin.Bytes.fitsIndex, Bool.and_eq_true, decide_eq_true_eq]; omega

theorem item_ba {k : Nat} {u : Tok} {x : UInt8} {Q : Value → Shared → Prop} (h : s.heap.get? a = some (ba b)) (hk : (k : Int) < 2 ^ 63) (hx : b[k]? = some x)
    (hQ : Q (.int x.toNat s.toks) { s with toks := s.toks + 1 }) : wpAny (model prog w) A (getItem (.ref a) (.int k u)) Q E s := by
  have hT := ba_typeIs h
  refine wpAny_getItem_slot hT (by decide) slot_ba_getitem (wpAny_call_entry slot_ba_getitem hT entry_ba_getitem ?_ (args_ba_getitem _ _))
  unfold Builtin.«bytearray.__getitem__»
  refine wpAny_bind ?_
  rw [slotArgs_item]
  refine wpAny_pure ?_
  dsimp only
  refine wpAny_bind ?_
  refine subscript_int ?_ ?_
  · exact fitsB (by omega) (by omega)
  dsimp only
  refine wpAny_bind (payload_ba h ?_)
  obtain ⟨hlt, _⟩ := Array.getElem?_eq_some_iff.mp hx
  have e : (seqIndex? (k : Int) b.size).bind (b[·]?) = some x := by
    rw [seqIdx_nat, if_pos hlt]; exact hx
  rw [e]
  exact wpAny_bind (wpAny_mkInt (wpAny_pure ⟨_, rfl, hQ⟩))

theorem item_ba_out {k : Nat} {u : Tok} {Q : Value → Shared → Prop} (hA : A.handled = none) (h : s.heap.get? a = some (ba b)) (hk : (k : Int) < 2 ^ 63) (hx : b.size ≤ k)
    (hE : ∀ h' tk e, Heap.NewExc s.heap h' e "IndexError" → E (.ref e) { s with heap := h', toks := tk }) : wpAny (model prog w) A (getItem (.ref a) (.int k u)) Q E s := by
  have hT := ba_typeIs h
  refine wpAny_getItem_slot hT (by decide) slot_ba_getitem (wpAny_call_entry slot_ba_getitem hT entry_ba_getitem ?_ (args_ba_getitem _ _))
  unfold Builtin.«bytearray.__getitem__»
  refine wpAny_bind ?_
  rw [slotArgs_item]
  refine wpAny_pure ?_
  dsimp only
  refine wpAny_bind ?_
  refine subscript_int ?_ ?_
  · exact fitsB (by omega) (by omega)
  dsimp only
  refine wpAny_bind (payload_ba h ?_)
  have e : (seqIndex? (k : Int) b.size).bind (b[·]?) = none := by
    rw [seqIdx_nat, if_neg (by omega)]; rfl
  rw [e]
  refine wpAny_bind ?_
  show wpAny _ _ (rule "bytearray.subscript.out-of-range" >>= fun _ => raiseError "IndexError" "bytearray index out of range") _ _ _
  refine wpAny_bind (wpAny_rule ?_)
  exact_raiseError plainExc_IndexError hA hE

theorem item_baG {value slice : Expr} {k : Int} {u : Tok} {Q : Value → Shared → Prop} (h : s.heap.get? a = some (ba b)) (h0 : 0 ≤ k) (hk : k < b.size) (hz : b.size ≤ sizeLine)
    (hQ : ∀ t tk, Q (.int (b.getD k.toNat 0).toNat t) { s with toks := tk })
    (hs : subscripted slice false (.ref a) (.int k u) = operate [.ref a, .int k u] (getItem (.ref a) (.int k u)) := by with_unfolding_all rfl) :
    wpAny (model prog w) A (subscriptTail value slice (.ref a) (.int k u)) Q E s := by
  rw [sizeLine_eq] at hz
  refine tail_any (ba_typeIs h) slot_ba_getitem.lookup ?_ hs
  obtain ⟨n, rfl⟩ := Int.eq_ofNat_of_zero_le h0
  have hn : n < b.size := by omega
  refine item_ba (x := b.getD n 0) h (by omega) ?_ (hQ _ _)
  rw [Array.getD_eq_getD_getElem?, Array.getElem?_eq_getElem hn]; rfl
theorem item_baX {value slice : Expr} {k : Int} {u : Tok} {Q : Value → Shared → Prop} (hA : A.handled = none) (h : s.heap.get? a = some (ba b)) (h0 : 0 ≤ k) (hk : b.size ≤ k) (hz : k < 2 ^ 62)
    (hE : ∀ h' tk e, Heap.NewExc s.heap h' e "IndexError" → E (.ref e) { s with heap := h', toks := tk })
    (hs : subscripted slice false (.ref a) (.int k u) = operate [.ref a, .int k u] (getItem (.ref a) (.int k u)) := by with_unfolding_all rfl) :
    wpAny (model prog w) A (subscriptTail value slice (.ref a) (.int k u)) Q E s := by
  refine tail_any (ba_typeIs h) slot_ba_getitem.lookup ?_ hs
  obtain ⟨n, rfl⟩ := Int.eq_ofNat_of_zero_le h0
  exact item_ba_out hA h (by omega) (by omega) hE

theorem bytesPart {v : Value} {k : Option Int} {Q : Value → Shared → Prop} (hv : IsPart v k) (h : Q (rawPart k) s) : wpAny (model prog w) A (do
    if v == .none then return .none
    if (← specialOf v "__index__").isNone then
      rule "bytes.slice.part-no-index"; raiseError "TypeError" "slice indices must be integers or None or have an __index__ method"
    return rawInt (← asIndex v)) Q E s := by
  cases hv with
  | none => exact wpAny_pure h
  | int i t =>
    rw [if_neg (show ¬ ((Value.int i t == Value.none) = true) from Bool.false_ne_true)]
    refine wpAny_bind (wpAny_specialOf (T := "int") (typeIs_int s i t) int_index ?_)
    simp only [Option.isNone_some, Bool.false_eq_true, if_false]
    exact wpAny_bind (wpAny_of_eq (a := i) rfl (wpAny_pure h))

theorem sliced_from (b : Array UInt8) (k : Nat) (hk : k ≤ b.size) : Builtin.Bytes.sliced b k b.size 1 = (b.toList.drop k).toArray := by
  unfold Builtin.Bytes.sliced
  rw [sliceRange_one, pick_run, List.take_of_length_le (by simp)]
theorem bounds_from (k n : Nat) (hk : k ≤ n) : sliceBounds (some (k : Int)) none none n = ((k : Int), (n : Int), 1) := by
  simp only [sliceBounds, Option.getD_none]
  have h1 : ¬ ((k : Int) < 0) := by omega
  simp only [h1, if_false, show (1 : Int) > 0 by decide, if_true]
  congr 1
  omega

theorem slice_ba {sl : Addr} {k : Nat} {t : Tok} {Q : Value → Shared → Prop} (h : s.heap.get? a = some (ba b)) (hs : s.heap.IsSliceOf sl (.int k t) .none .none) (hk : k ≤ b.size) (hz : b.size ≤ sizeLine)
    (hQ : Q (.ref s.heap.objs.size) { s with heap := s.heap.push (ba (b.toList.drop k).toArray) }) : wpAny (model prog w) A (getItem (.ref a) (.ref sl)) Q E s := by
  have hT := ba_typeIs h
  obtain ⟨os, hos, hcs, hds⟩ := id hs
  have hTs : s.TypeIs (.ref sl) "slice" := ⟨os, hos, hcs⟩
  refine wpAny_getItem_slot hT (by decide) slot_ba_getitem (wpAny_call_entry slot_ba_getitem hT entry_ba_getitem ?_ (args_ba_getitem _ _))
  unfold Builtin.«bytearray.__getitem__»
  refine wpAny_bind ?_
  rw [slotArgs_item]
  refine wpAny_pure ?_
  dsimp only
  refine wpAny_bind ?_
  unfold Builtin.Bytes.subscript?
  refine wpAny_bind (wpAny_specialOf hTs slice_no_index ?_)
  simp only [Option.isNone_none, if_true]
  refine wpAny_pure ?_
  dsimp only
  refine wpAny_bind (wpAny_typeOf hTs ?_)
  rw [if_neg (by decide)]
  refine wpAny_bind ?_
  unfold Builtin.Bytes.sliceParts
  refine wpAny_bind (wpAny_field (x := .none) hos hds rfl (wpAny_bind (bytesPart .none ?_)))
  rw [if_neg (show ¬ ((rawPart none == rawInt 0) = true) from Bool.false_ne_true)]
  refine wpAny_bind (wpAny_field (x := .int k t) hos hds rfl (wpAny_bind (bytesPart (.int _ _) ?_)))
  refine wpAny_bind (wpAny_field (x := .none) hos hds rfl (wpAny_bind (bytesPart .none (wpAny_pure ?_))))
  dsimp only
  refine wpAny_bind (payload_ba h ?_)
  refine wpAny_bind (wpAny_of_eq (sliceIndices_raw (some (k : Int)) none none b.size (by simp)) ?_)
  rw [bounds_from k b.size hk]
  dsimp only
  rw [sliced_from b k hk]
  unfold Builtin.Bytes.newBytearray
  refine wpAny_bind (wpAny_newObj_type (wpAny_pure ⟨_, rfl, hQ⟩) ?_)
  show (b.toList.drop k).toArray.size ≤ sizeLine
  simp only [List.size_toArray, List.length_drop, Array.length_toList]
  omega

theorem ba_no_bytes : typeLookup (.type "bytearray") "__bytes__" = pure none := by rw [typeLookup_type, builtinLookup_eq_fast]; kernel_rfl
theorem ba_no_index : typeLookup (.type "bytearray") "__index__" = pure none := by rw [typeLookup_type, builtinLookup_eq_fast]; kernel_rfl
theorem ba_buffer : typeLookup (.type "bytearray") "__buffer__" = pure (some (.builtin "bytearray.__buffer__")) := by rw [typeLookup_type, builtinLookup_eq_fast]; kernel_rfl
theorem ba_release : typeLookup (.type "bytearray") "__release_buffer__" = pure (some (.builtin "bytearray.__release_buffer__")) := by rw [typeLookup_type, builtinLookup_eq_fast]; kernel_rfl
theorem ba_sub : isSubtype (.type "bytearray") (.type "bytearray") = pure true := by rw [isSubtype_type]; kernel_rfl

theorem slotIsOwn_buffer {Q : Bool → Shared → Prop} (h : s.heap.get? a = some (ba b)) (hQ : Q true s) : wpAny (model prog w) A (Builtin.Bytes.slotIsOwn (.ref a) "__buffer__") Q E s := by
  have hT := ba_typeIs h
  unfold Builtin.Bytes.slotIsOwn
  refine wpAny_bind (wpAny_specialOf hT ba_buffer ?_)
  dsimp only
  rw [if_neg (by decide +kernel)]
  rw [show ("bytearray.__buffer__".dropRight ("__buffer__".length + 1)) = "bytearray" from by decide +kernel]
  exact wpAny_isInstance hT ba_sub hQ
theorem ownRelease_ba {Q : Bool → Shared → Prop} (h : s.heap.get? a = some (ba b)) (hQ : Q false s) : wpAny (model prog w) A (Builtin.Bytes.ownRelease (.ref a)) Q E s := by
  have hT := ba_typeIs h
  unfold Builtin.Bytes.ownRelease
  refine wpAny_bind ?_
  unfold Builtin.Bytes.slotIsOwn
  refine wpAny_bind (wpAny_specialOf hT ba_release ?_)
  dsimp only
  rw [if_neg (by decide +kernel)]
  rw [show ("bytearray.__release_buffer__".dropRight ("__release_buffer__".length + 1)) = "bytearray" from by decide +kernel]
  exact wpAny_isInstance hT ba_sub (wpAny_pure hQ)
theorem buffer_ba {id : String} {full : Bool} {Q : Option (Array UInt8) → Shared → Prop} (h : s.heap.get? a = some (ba b)) (hQ : Q (some b) s) : wpAny (model prog w) A (Builtin.Bytes.buffer? id (.ref a) full) Q E s := by
  have hT := ba_typeIs h
  unfold Builtin.Bytes.buffer?
  refine wpAny_bind (wpAny_specialOf hT ba_buffer ?_)
  refine wpAny_bind (slotIsOwn_buffer h ?_)
  rw [if_neg (by decide)]
  refine wpAny_bind (wpAny_specialOf hT ba_buffer ?_)
  dsimp only
  refine wpAny_bind (ownRelease_ba h ?_)
  rw [if_neg (by decide)]
  exact wpAny_bind (payload_ba h (wpAny_pure hQ))

theorem bytes_new_ba {Q : Value → Shared → Prop} (h : s.heap.get? a = some (ba b)) (hz : b.size ≤ sizeLine) (hQ : ∀ t k, Q (.bytes b t) { s with toks := k }) :
    codeAny (model prog w) A (.call (.builtin "bytes.__new__") ⟨[.type "bytes", .ref a], []⟩) (wants Q E) s := by
  refine codeAny_of_tree ?_
  show wpAny _ A.in1 (do checkBuiltinCall "bytes.__new__" ⟨[.type "bytes", .ref a], []⟩; again (.builtin "bytes.__new__" ⟨[.type "bytes", .ref a], []⟩)) _ _ s
  refine wpAny_bind (wpAny_of_eq (F.bm_newCall _) (wpAny_pure ⟨plainId_quiet F.bm_plain _, codeAny_builtin F.bm_entry ?_⟩))
  rw [Around.under_plainId F.bm_plain _]
  have hT := ba_typeIs h
  unfold Builtin.«bytes.__new__»
  refine wpAny_bind (wpAny_of_eq (a := true) rfl ?_)
  refine bm_if_false rfl ?_
  refine wpAny_bind (wpAny_of_eq F.bm_sub ?_)
  refine bm_if_false rfl ?_
  refine wpAny_bind (wpAny_of_eq (F.bm_bind _) ?_)
  refine wpAny_bind (wpAny_of_eq (a := ()) rfl ?_)
  refine wpAny_bind (wpAny_of_eq (a := ()) rfl ?_)
  refine bm_if_false rfl ?_
  refine wpAny_bind (wpAny_specialOf hT ba_no_bytes ?_)
  refine wpAny_bind (wpAny_bind ?_)
  show wpAny _ _ (load a >>= _) _ _ _
  refine wpAny_bind (wpAny_load h ?_)
  refine wpAny_pure (wpAny_pure ?_)
  refine bm_if_false rfl ?_
  refine wpAny_bind (wpAny_specialOf hT ba_no_index ?_)
  refine bm_if_true rfl ?_
  refine wpAny_bind (buffer_ba h ?_)
  dsimp only
  refine wpAny_bind (wpAny_rule (wpAny_bind (wpAny_mkBytes ?_ hz)))
  show wpAny _ _ (if (Value.type "bytes" == Value.type "bytes") = true then _ else _) _ _ _
  refine bm_if_true (by decide) ?_
  first
    | exact wpAny_pure (hQ _ _)
    | exact wpAny_bind (wpAny_pure (wpAny_pure (hQ _ _)))
theorem bytes_of_ba {Q : Value → Shared → Prop} (h : s.heap.get? a = some (ba b)) (hz : b.size ≤ sizeLine) (hQ : ∀ t k, Q (.bytes b t) { s with toks := k }) :
    wpAny (model prog w) A (call (.type "bytes") [.ref a]) Q E s := by
  refine callType_codes (Q₁ := fun obj s₁ => s₁.TypeIs obj "bytes" ∧ Q obj s₁) F.bm_called (F.bm_typeCall _) F.entry_object_init
    (bytes_new_ba h hz fun t k => ⟨PySem.W.typeIs_bytes _ _ _, hQ t k⟩) fun obj s₁ h₁ => ?_
  exact ⟨h₁.1, F.args_object_init_2 obj _, object_init_meets F.bm_called.init.lookup F.bm_called.made (by decide) prog w A.in1 _ s₁ ⟨h₁.1, rfl, h₁.2⟩⟩
end
end Vi
namespace Vi
open PySem PySem.W PySem.Calls PyProof.Rows
open Mine (okCode OkB wpC codeC ownC wpC_of_any codeC_of_any wpC_pure wpC_mono wpC_bind wpC_bindA wpC_holding wpC_keep wpC_onRaise wpC_run wpC_runValue wpC_call codeC_mono codeC_of_own ownC_of_wpC ownC_of_any ownC_bind codeC_of_tree ownC_stack)

theorem slot_ba_append : Slot "bytearray" "append" "bytearray.append" :=
  .of (owner := "bytearray") (n := "append") (by rw [typeLookup_type, builtinLookup_eq_fast]; kernel_rfl) (by decide +kernel) (by decide +kernel) (by decide +kernel)
    (by first | exact .inl (by decide +kernel) | exact .inr (by decide +kernel)) (by rw [isSubtype_type]; kernel_rfl)
theorem entry_ba_append : entryFor table "bytearray.append" = some Builtin.«bytearray.append» := entryFor_of_tree (by kernel_rfl)
theorem args_ba_append (a b : Value) : argsOk "bytearray.append" ⟨[a, b], []⟩ := by
  unfold argsOk; rw [signature?_of (id := "bytearray.append") (n := ['d', 'n', 'e', 'p', 'p', 'a']) (o := ['y', 'a', 'r', 'r', 'a', 'e', 't', 'y', 'b']) (by kernel_rfl) owner_ba]; kernel_rfl

section
variable {prog : Program} {w : World} {A : Around} {E : Value → Shared → Prop} {s : Shared} {a : Addr} {b : Array UInt8}

theorem codeC_call_builtin {id : String} {args : Args} {B : Builtin} {R : Result → Shared → Prop} (hq : plainId id = true) (hb : entryFor table id = some B)
    (hc : ∀ Q : Unit → Shared → Prop, Q () s → wpAny (model prog w) A.in1 (checkBuiltinCall id args) Q (fun e s' => R (.error e) s') s)
    (h : ownC (model prog w) A (.builtin id args) (B args) (fun fin s' => match fin with | .done f => R (.ok f) s' | .again c' => c'.quiet = true ∧ codeC (model prog w) A c' R s') (fun e s' => R (.error e) s') s) :
    codeC (model prog w) A (.call (.builtin id) args) R s := by
  refine codeC_of_own ?_
  show ownC _ _ _ (checkBuiltinCall id args >>= fun _ => again (.builtin id args)) _ _ _
  refine ownC_bind (ownC_of_any ?_)
  rw [Around.under_plain (c := .call (.builtin id) args) rfl rfl]
  refine hc _ (ownC_of_any (wpAny_pure ⟨plainId_quiet hq args, codeC_of_own ?_⟩))
  show ownC _ _ _ (match entryFor table id with | some b => b args | none => unsupported ((withoutEnding? id "#data").getD id)) _ _ _
  rw [hb]
  exact h

theorem exported_C {self v : Value} {r : List Value} {kw : List (Str × Value)} {id : String} {Q : Bool → Shared → Prop} (hid : okCode (.builtin id ⟨v :: r, kw⟩) = true) (hQ : Q false s) :
    ownC (model prog w) A (.builtin id ⟨v :: r, kw⟩) (Builtin.Bytes.exported self) Q E s := by
  unfold Builtin.Bytes.exported
  refine ownC_bind (ownC_stack fun p below hb => ?_)
  refine ownC_of_any (wpAny_pure ?_)
  rw [List.any_eq_false.mpr (fun x hx => ?_)]
  · exact hQ
  · have hx1 : okCode x.1 = true := by
      rcases List.mem_cons.mp hx with rfl | hx
      · exact hid
      · exact hb x hx
    clear hx hid
    obtain ⟨c, p'⟩ := x
    cases c with
    | builtin id' args' =>
      have hx' : Mine.badIds.contains id' = false := by simpa [okCode] using hx1
      unfold Mine.badIds at hx'
      rw [List.contains_append] at hx'
      obtain ⟨h1, h2⟩ := Bool.or_eq_false_iff.mp hx'
      simp only [List.contains_cons, List.contains_nil, Bool.or_false, Bool.or_eq_false_iff, beq_eq_false_iff_ne, ne_eq] at h1
      split <;> simp_all
    | _ => exact Bool.false_ne_true

theorem room_C {v : Value} {r : List Value} {kw : List (Str × Value)} {id : String} {Q : Bool → Shared → Prop} (h : s.heap.get? a = some (ba b)) (hid : okCode (.builtin id ⟨v :: r, kw⟩) = true) (hQ : Q false s) :
    ownC (model prog w) A (.builtin id ⟨v :: r, kw⟩) (Builtin.Bytes.exported (.ref a) <||> (do return (← Builtin.Bytes.exportsOf (.ref a)) > 0)) Q E s := by
  refine ownC_bind (exported_C hid ?_)
  refine ownC_of_any ?_
  unfold Builtin.Bytes.exportsOf
  exact wpAny_bind (wpAny_bind (wpAny_load h (wpAny_pure (wpAny_pure hQ))))

theorem write_ba {f : Array UInt8 → Array UInt8} {Q : Unit → Shared → Prop} (h : s.heap.get? a = some (ba b)) (hz : (f b).size ≤ sizeLine)
    (hQ : Q () { s with heap := s.heap.update a (Obj.mapBytearray f) }) : wpAny (model prog w) A (Builtin.Bytes.write (.ref a) f) Q E s := by
  show wpAny _ _ (updateBytearray a f) _ _ _
  unfold updateBytearray
  refine wpAny_bind (wpAny_load h ?_)
  show wpAny _ _ (update a (Obj.mapBytearray f) >>= fun _ => lookBehind a) _ _ _
  refine wpAny_bind (wpAny_update h ?_)
  refine wpAny_lookBehind (o := ba (f b)) (Heap.get?_update_self (Obj.mapBytearray f) h rfl) ?_ hQ
  show (if (f b).size > sizeLine then some "bytearray:memory" else none) = none
  rw [if_neg (by omega)]

theorem append_C {k : Nat} {t : Tok} {Q : Value → Shared → Prop} (h : s.heap.get? a = some (ba b)) (hk : k < 256) (hz : b.size + 1 ≤ sizeLine)
    (hQ : ∀ h', Chg [a] s.heap h' → h'.get? a = some (ba (b.push (UInt8.ofNat k))) → Q .none { s with heap := h' }) :
    wpC (model prog w) A (call (.builtin "bytearray.append") [.ref a, .int k t]) Q E s := by
  have hT := ba_typeIs h
  refine wpC_call (codeC_call_builtin slot_ba_append.plain entry_ba_append (fun Q hQ => slot_ba_append.check _ _ _ _ _ _ _ _ hT (args_ba_append _ _) hQ) ?_)
  unfold Builtin.«bytearray.append»
  refine ownC_bind (ownC_of_any (wpAny_of_eq (a := (.ref a, .int k t)) rfl ?_))
  dsimp only
  refine ownC_bind (ownC_of_any ?_)
  unfold Builtin.Bytes.byteValue
  refine wpAny_bind (wpAny_of_eq (rfl : asIndex (.int k t) = pure (k : Int)) ?_)
  refine bm_if_false (by simp only [Bool.or_eq_false_iff, decide_eq_false_iff_not]; omega) ?_
  refine wpAny_pure ?_
  refine ownC_bind ?_
  unfold Builtin.Bytes.checkResize
  refine ownC_bind (room_C h (by show (!Mine.badIds.contains "bytearray.append") = true; decide +kernel) ?_)
  refine ownC_of_any (bm_if_false rfl (wpAny_pure (ownC_of_any ?_)))
  refine wpAny_bind (write_ba h ?_ (wpAny_pure (hQ _ (fun b' o e n => ?_) (Heap.get?_update_self _ h rfl))))
  · rw [Array.size_push]; exact hz
  · exact (Heap.get?_update_ne _ _ _ _ (by simpa using n)).trans e

theorem mro_ba : mroOf (.type "bytearray") = pure [.type "bytearray", .type "object"] := by rw [mroOf_type]; kernel_rfl
theorem lookup_ba_new : typeLookup (.type "bytearray") "__new__" = pure (some (.builtin "bytearray.__new__")) := by rw [typeLookup_type, builtinLookup_eq_fast]; kernel_rfl
theorem slot_ba_init : Slot "bytearray" "__init__" "bytearray.__init__" :=
  .of (owner := "bytearray") (n := "__init__") (by rw [typeLookup_type, builtinLookup_eq_fast]; kernel_rfl) (by decide +kernel) (by decide +kernel) (by decide +kernel)
    (by first | exact .inl (by decide +kernel) | exact .inr (by decide +kernel)) (by rw [isSubtype_type]; kernel_rfl)
theorem called_ba : TypeCalled "bytearray" "bytearray.__new__" "bytearray.__init__" :=
  ⟨by decide +kernel, by decide +kernel, ⟨_, _, mro_ba⟩, madeBy_type mro_ba lookup_ba_new (by decide +kernel), by decide +kernel, ba_sub, slot_ba_init⟩
theorem typeCall_ba (a : Value) : checkTypeCall "bytearray" ⟨[a], []⟩ = pure () := by kernel_rfl
theorem newCall_ba (a : Value) : checkBuiltinCall "bytearray.__new__" ⟨[.type "bytearray", a], []⟩ = pure () := by kernel_rfl
theorem entry_ba_new : entryFor table "bytearray.__new__" = some Builtin.«list.__new__» :=
  entryFor_alias (id' := "list.__new__") (by rw [fastTable_eq_tree]; kernel_rfl) (by first | rfl | decide +kernel) (by decide +kernel) (by rw [fastTable_eq_tree]; kernel_rfl)
theorem plain_ba_new : plainId "bytearray.__new__" = true := by decide +kernel
theorem entry_ba_init : entryFor table "bytearray.__init__" = some Builtin.«bytearray.__init__» := entryFor_of_tree (by kernel_rfl)
set_option maxRecDepth 1000000 in
set_option maxHeartbeats 4000000 in
theorem owner_ba_new : ("bytearray.__new__".splitOn ".__new__").headD "" = "bytearray" := by simp +decide [String.splitOn, String.splitOnAux]
theorem args_ba_init (a b : Value) : argsOk "bytearray.__init__" ⟨[a, b], []⟩ := by
  unfold argsOk; rw [signature?_of (id := "bytearray.__init__") (n := ['_', '_', 't', 'i', 'n', 'i', '_', '_']) (o := ['y', 'a', 'r', 'r', 'a', 'e', 't', 'y', 'b']) (by kernel_rfl) owner_ba]; kernel_rfl
theorem bind_ba_init (v : Value) : Builtin.Bytes.bindOptional "bytearray.__init__" "bytearray" ["source", "encoding", "errors"] [v] [] = pure [some v, none, none] := by kernel_rfl

theorem code_ba_new (x : Value) {Q₁ : Value → Shared → Prop}
    (h : Q₁ (.ref s.heap.objs.size) { s with heap := s.heap.push (ba #[]) }) :
    codeAny (model prog w) A (.call (.builtin "bytearray.__new__") ⟨[.type "bytearray", x], []⟩) (wants Q₁ E) s := by
  refine codeAny_of_tree ?_
  show wpAny _ A.in1 (do checkBuiltinCall "bytearray.__new__" ⟨[.type "bytearray", x], []⟩; again (.builtin "bytearray.__new__" ⟨[.type "bytearray", x], []⟩)) _ _ s
  refine wpAny_bind (wpAny_of_eq (newCall_ba x) (wpAny_pure ⟨plainId_quiet plain_ba_new _, codeAny_builtin_stack entry_ba_new rfl fun p st => ?_⟩))
  rw [Around.under_plainId plain_ba_new _]
  have hsub := ba_sub
  have hown := owner_ba_new
  obtain ⟨hp, g, d, tk, os⟩ := s
  simp only [hown]
  wp_walk
  exact h

theorem ownC_if_false {α : Type} {M : Model} {co : Code} {c : Bool} {x y : Sem α} {Q : α → Shared → Prop} (hc : c = false) (h : ownC M A co y Q E s) : ownC M A co (if c = true then x else y) Q E s := by
  subst hc
  exact h
theorem good_all : ∀ {vs : List Value} {ns : List Int}, IntsAre vs ns → (∀ n ∈ ns, 0 ≤ n ∧ n < 256) →
    vs.takeWhile (fun | .int i _ => 0 ≤ i && i < 256 | _ => false) = vs ∧ (vs.filterMap fun | .int i _ => some i.toNat.toUInt8 | _ => none) = ns.map fun n => n.toNat.toUInt8
  | _, _, .nil, _ => ⟨rfl, rfl⟩
  | _, _, .cons n t hi, hr => by
    obtain ⟨h1, h2⟩ := good_all hi fun x hx => hr x (.tail _ hx)
    have hn := hr n (.head _)
    have e : (decide (0 ≤ n) && decide (n < 256)) = true := by simp only [Bool.and_eq_true, decide_eq_true_eq]; exact hn
    constructor
    · rw [List.takeWhile_cons]
      simp only [e, if_true]
      rw [h1]
    · rw [List.filterMap_cons, List.map_cons]
      simp only
      rw [h2]

theorem init_C {l : Addr} {vs : List Value} {ns : List Int} {R : Result → Shared → Prop} (h : s.heap.get? a = some (ba #[])) (hl : s.heap.IsList l vs.toArray) (hi : IntsAre vs ns) (hr : ∀ n ∈ ns, 0 ≤ n ∧ n < 256) (hz : ns.length ≤ sizeLine)
    (hR : ∀ h', Chg [a] s.heap h' → h'.get? a = some (ba (byteArr ns)) → R (.ok (.ret .none)) { s with heap := h' }) :
    ownC (model prog w) A (.builtin "bytearray.__init__" ⟨[.ref a, .ref l], []⟩) (Builtin.«bytearray.__init__» ⟨[.ref a, .ref l], []⟩)
      (fun fin s' => match fin with | .done f => R (.ok f) s' | .again c' => c'.quiet = true ∧ codeC (model prog w) A c' R s') (fun e s' => R (.error e) s') s := by
  obtain ⟨ol, hol, hoc, nl, hod⟩ := id hl
  have hTl : s.TypeIs (.ref l) "list" := hl.typeIs
  have hla : l ≠ a := by
    rintro rfl
    rw [h] at hol
    have := Option.some.inj hol
    rw [← this] at hoc
    exact absurd hoc (by decide)
  have hok : okCode (.builtin "bytearray.__init__" ⟨[.ref a, .ref l], []⟩) = true := by show (!Mine.badIds.contains "bytearray.__init__") = true; decide +kernel
  unfold Builtin.«bytearray.__init__»
  show ownC _ _ _ (Builtin.Bytes.ownRelease (.ref a) >>= _) _ _ _
  refine ownC_bind (ownC_of_any (ownRelease_ba h ?_))
  refine ownC_if_false rfl ?_
  refine ownC_bind (ownC_of_any (wpAny_of_eq (bind_ba_init _) ?_))
  show ownC _ _ _ (Builtin.Bytes.checkCodecArg "bytearray.__init__" "bytearray" "encoding" none >>= _) _ _ _
  refine ownC_bind (ownC_of_any (wpAny_of_eq (a := ()) rfl ?_))
  refine ownC_bind (ownC_of_any (wpAny_of_eq (a := ()) rfl ?_))
  refine ownC_bind (room_C h hok ?_)
  refine ownC_if_false rfl ?_
  refine ownC_of_any ?_
  refine wpAny_bind (write_ba h (Nat.zero_le _) ?_)
  have h' : (s.heap.update a (Obj.mapBytearray fun _ => #[])).get? a = some (ba #[]) := Heap.get?_update_self _ h rfl
  have hol' : (s.heap.update a (Obj.mapBytearray fun _ => #[])).get? l = some ol := (Heap.get?_update_ne _ _ _ _ hla).trans hol
  have hT' : ({ s with heap := s.heap.update a (Obj.mapBytearray fun _ => #[]) } : Shared).TypeIs (.ref l) "list" := ⟨ol, hol', hoc⟩
  generalize hH : s.heap.update a (Obj.mapBytearray fun _ => #[]) = H at h' hol' hT'
  show wpAny _ _ (asStr? (.ref l) >>= _) _ _ _
  refine wpAny_bind (wpAny_bind (wpAny_load hol' ?_))
  rw [hod]
  refine wpAny_pure (bm_if_false rfl ?_)
  refine wpAny_bind (wpAny_of_eq (a := ()) rfl ?_)
  refine wpAny_bind (wpAny_specialOf hT' F.bm_no_index ?_)
  refine bm_if_false rfl ?_
  refine wpAny_bind ?_
  unfold Builtin.Bytes.buffer?
  refine wpAny_bind (wpAny_specialOf hT' F.bm_no_buffer ?_)
  refine wpAny_bind (wpAny_specialOf hT' F.bm_no_buffer ?_)
  refine wpAny_pure ?_
  refine wpAny_bind (wpAny_typeOf hT' ?_)
  refine bm_if_true (by decide) ?_
  refine wpAny_bind (wpAny_seqItems hol' hod ?_)
  obtain ⟨e1, e2⟩ := good_all hi hr
  dsimp only
  generalize hg : List.takeWhile (α := Value) _ _ = good
  have hg' : good = vs := hg.symm.trans e1
  subst hg'
  generalize hf : List.filterMap (α := Value) (β := UInt8) _ _ = bs
  have hf' : bs.toArray = byteArr ns := congrArg List.toArray (hf.symm.trans e2)
  rw [hf']
  rw [show good.toArray[good.length]? = none from by simp]
  refine wpAny_bind (wpAny_rule ?_)
  refine wpAny_bind (write_ba h' (by show (byteArr ns).size ≤ sizeLine; rw [byteArr_size]; exact hz) ?_)
  refine wpAny_pure (hR _ (fun b' o e n => ?_) (Heap.get?_update_self _ h' rfl))
  rw [← hH]
  have n' : b' ≠ a := by simpa using n
  exact (Heap.get?_update_ne _ _ _ _ n').trans ((Heap.get?_update_ne _ _ _ _ n').trans e)

theorem codeC_builtin {id : String} {args : Args} {B : Builtin} {R : Result → Shared → Prop} (hb : entryFor table id = some B) (hk : Mine.badIds.contains id = false)
    (h : wpC (model prog w) (A.under (.builtin id args)) (B args) (fun fin s' => match fin with | .done f => R (.ok f) s' | .again c' => c'.quiet = true ∧ codeC (model prog w) A c' R s') (fun e s' => R (.error e) s') s) :
    codeC (model prog w) A (.builtin id args) R s := by
  refine codeC_of_tree (by show (!Mine.badIds.contains id) = true; rw [hk]; rfl) ?_
  show wpC _ _ (match entryFor table id with | some b => b args | none => unsupported ((withoutEnding? id "#data").getD id)) _ _ _
  rw [hb]
  exact h
theorem ok_type_call : Mine.badIds.contains "type.__call__" = false := by decide +kernel
theorem wpC_if_false {α : Type} {M : Model} {c : Bool} {x y : Sem α} {Q : α → Shared → Prop} (hc : c = false) (h : wpC M A y Q E s) : wpC M A (if c = true then x else y) Q E s := by
  subst hc
  exact h
theorem init_code {l : Addr} {vs : List Value} {ns : List Int} {R : Result → Shared → Prop} (hT : s.TypeIs (.ref a) "bytearray") (h : s.heap.get? a = some (ba #[])) (hl : s.heap.IsList l vs.toArray) (hi : IntsAre vs ns) (hr : ∀ n ∈ ns, 0 ≤ n ∧ n < 256) (hz : ns.length ≤ sizeLine)
    (hR : ∀ h', Chg [a] s.heap h' → h'.get? a = some (ba (byteArr ns)) → R (.ok (.ret .none)) { s with heap := h' }) :
    codeC (model prog w) A (.call (.builtin "bytearray.__init__") ⟨[.ref a, .ref l], []⟩) R s :=
  codeC_call_builtin slot_ba_init.plain entry_ba_init (fun Q hQ => slot_ba_init.check _ _ _ _ _ _ _ _ hT (args_ba_init _ _) hQ) (init_C h hl hi hr hz hR)
theorem callSpecial_C {M : Model} {self : Value} {T : String} {name : Str} {id : String} {args : List Value} {kw : List (Str × Value)} {Q : Option Value → Shared → Prop} (hT : s.TypeIs self T) (h : Slot T name id)
    (hc : wpC M A (call (.builtin id) (self :: args) kw) (fun v => Q (some v)) E s) : wpC M A (callSpecial? self name args kw) Q E s := by
  simp only [callSpecial?]
  refine wpC_bindA (wpAny_specialOf hT h.lookup ?_)
  simp only [h.bind]
  exact wpC_holding (wpC_bindA (wpAny_pure (wpC_bind (wpC_mono hc (fun v s' h' => wpC_pure h') fun _ _ h' => h'))))
theorem bytearray_C {l : Addr} {vs : List Value} {ns : List Int} {Q : Value → Shared → Prop} (hl : s.heap.IsList l vs.toArray) (hi : IntsAre vs ns) (hr : ∀ n ∈ ns, 0 ≤ n ∧ n < 256) (hz : ns.length ≤ sizeLine)
    (hQ : ∀ h' a', Chg [] s.heap h' → s.heap.get? a' = none → s.heap.objs.size ≤ a' → h'.get? a' = some (ba (byteArr ns)) → Q (.ref a') { s with heap := h' }) :
    wpC (model prog w) A (call (.type "bytearray") [.ref l]) Q E s := by
  refine wpC_call (codeC_of_own ?_)
  show ownC _ _ _ (callAny (.type "bytearray") _) _ _ _
  refine ownC_of_any (wpAny_pure ⟨Code.quiet_builtin _ (by decide +kernel), ?_⟩)
  refine codeC_builtin F.entry_type_call ok_type_call ?_
  rw [Around.under_plain (weight_type_call_type "bytearray" _ []) rfl]
  unfold Builtin.«type.__call__»
  refine wpC_if_false (c := (Value.type "bytearray" == Value.type "type")) called_ba.notType ?_
  refine wpC_if_false called_ba.canCreate ?_
  refine wpC_bindA (wpAny_of_eq (typeCall_ba _) ?_)
  refine wpC_bindA (wpAny_of_eq mro_ba ?_)
  refine wpC_if_false rfl ?_
  refine wpC_bindA (wpAny_of_eq called_ba.made ?_)
  refine wpC_bindA (wpAny_pure ?_)
  obtain ⟨ol, hol, hoc, nl, hod⟩ := id hl
  have hb : (s.heap.push (ba #[])).get? s.heap.objs.size = some (ba #[]) := Heap.get?_push_size _ rfl
  have hl' : (s.heap.push (ba #[])).IsList l vs.toArray := hl.push _
  have hfresh : s.heap.get? s.heap.objs.size = none := by
    cases e : s.heap.get? s.heap.objs.size with
    | none => rfl
    | some o => exact absurd (Heap.lt_size e) (Nat.lt_irrefl _)
  refine wpC_bindA (wpAny_holding (wpAny_call (code_ba_new _ ?_)))
  have hT : ({ s with heap := s.heap.push (ba #[]) } : Shared).TypeIs (.ref s.heap.objs.size) "bytearray" := ba_typeIs hb
  refine wpC_bindA (wpAny_isInstance hT ba_sub ?_)
  refine wpC_if_false rfl ?_
  refine wpC_bind (wpC_holding (callSpecial_C hT slot_ba_init (wpC_call (init_code hT hb hl' hi hr hz fun h' hc hg => ?_))))
  refine wpC_if_false rfl ?_
  refine wpC_pure ?_
  exact hQ h' _ (fun b o e n => hc b o (Heap.get?_push_of_some _ e) fun z => by rw [List.mem_singleton.mp z, hfresh] at e; cases e) hfresh (Nat.le_refl _) hg
end
end Vi
namespace Vi
open PySem PySem.W PySem.Calls PyProof.Rows

theorem fill1 : PySem.Challenge.rw_je0012_01 = PySem.Challenge.rw_je0012_01 ∧ Mine.hd.heap_39 = Mine.hd.heap_39 := by w_top off; k_fill; exact ⟨rfl, rfl⟩

def draw (ns : List Int) (k many : Int) : Int :=
  if ns.length = 0 then (13 * k + 5).fmod many else (ns.getD (k.fmod ns.length).toNat 0 + 7 * k * k.fdiv ns.length).fmod many

set_option maxHeartbeats 4000000 in
theorem next_spec {w : World} {A : Around} {s : Shared} {h₀ : Heap} {mg mb : Str → Option Value} {mean : ExcName → Option Value} {R : Result → Shared → Prop} 
    {hand scr : Addr} {vs : List Value} {ns : List Int} {k many : Int} {t t₁ : Tok} {n : Nat}
    (hA : A.handled = none) (hd : A.depth < 700) (hu : A.units < 5000) (hst : h₀.StaysIn s.heap) (X : (Mine.hd.heap_39 w.params).In h₀) (T : Top q lse mean mg mb h₀)
    (hh : s.heap.get? hand = some (lst [.ref scr, .int k t₁] n) ∧ h₀.get? hand = none)
    (hs : h₀.IsList scr vs.toArray) (hi : IntsAre vs ns) (hlen : ns.length ≤ 63)
    (hk0 : 0 ≤ k) (hk1 : k < 1000) (hm0 : 0 < many) (hm1 : many ≤ 10000)
    (h : ∀ h' tk t₂ tv x, x = draw ns k many → Chg [hand] s.heap h' → h'.get? hand = some (lst [.ref scr, .int (k + 1) t₂] n) → R (.ok (.ret (.int x tv))) { s with heap := h', toks := tk }) :
    codeAny (model pw w) A (.call (.ref 43) ⟨[.ref hand, .int many t], []⟩) R s := by
  obtain ⟨_, dep, fr, gs, un⟩ := A
  dsimp only at hA hd hu
  subst hA
  refine callF (Kf := Mine.hd.heap_39 w.params) (name := "_law_next") (qual := "_law_next") (dV := .none) (binds := [("hand", .ref hand), ("many", .int many t)]) [(hand, lst [.ref scr, .int k t₁] n)] hst X T (fun p hp => by rcases List.mem_singleton.mp hp with rfl; exact hh) (by show dep < 1000; omega) rfl rfl (by rfl) (.of_eq rfl) (locs rfl) ?_
  intro g L h' tk F' N' X' T' st kg
  have hs' := stays_list st hs
  k_steps
  all_goals (with_reducible rename Fr _ _ _ _ => kF; with_reducible rename News _ _ _ _ => kN)
  all_goals dsimp only
  · refine h _ _ _ _ _ ?_ (fun b o e n => kF.keep _ _ (kg _ _ e n)) (kN _ (.head _)).1
    rw [draw, if_pos (by omega)]
  · refine h _ _ _ _ _ ?_ (fun b o e n => kF.keep _ _ (kg _ _ e n)) (kN _ (.head _)).1
    rw [draw, if_neg (by omega)]
end Vi
namespace Vi
open PySem PySem.W PySem.Calls PyProof.Rows
theorem fill2 : PySem.Challenge.rw_je0012_01 = PySem.Challenge.rw_je0012_01 ∧ Mine.hd.heap_39 = Mine.hd.heap_39 := by w_top off; k_fill; exact ⟨rfl, rfl⟩

theorem size_len {v : Int} (n : Nat) {lo hi : Nat} (h1 : (lo : Int) ≤ zz v) (h2 : (zz v : Int) < hi) (e1 : n = 0 ∨ lo = 128 ^ n) (e2 : hi = 128 ^ (n + 1)) : (n + 1 : Int) = ((octs (zz v)).length : Int) := by
  rw [octs_len n (zz v) (by omega) (e1.imp id fun e => by omega)]
  omega

set_option maxHeartbeats 4000000 in
theorem size_spec {w : World} {A : Around} {s : Shared} {h₀ : Heap} {mg mb : Str → Option Value} {mean : ExcName → Option Value} {R : Result → Shared → Prop} 
    {v : Int} {t : Tok} (hA : A.handled = none) (hd : A.depth < 700) (hu : A.units < 5000)
    (hst : h₀.StaysIn s.heap) (X : (Mine.hd.heap_39 w.params).In h₀) (T : Top q lse mean mg mb h₀)
    (hv1 : -(2 ^ 63) ≤ v) (hv2 : v < 2 ^ 63)
    (h : ∀ h' tk tv x, x = ((octs (zz v)).length : Int) → Chg [] s.heap h' → R (.ok (.ret (.int x tv))) { s with heap := h', toks := tk }) :
    codeAny (model pw w) A (.call (.ref 28) ⟨[.int v t], []⟩) R s := by
  obtain ⟨_, dep, fr, gs, un⟩ := A
  dsimp only at hA hd hu
  subst hA
  refine callF (Kf := Mine.hd.heap_39 w.params) (name := "size_of_varint") (qual := "size_of_varint") (dV := .none) (binds := [("value", .int v t)]) [] hst X T (fun p hp => nomatch hp) (by show dep < 1000; omega) rfl rfl (by rfl) (.of_eq rfl) (locs rfl) ?_
  intro g L h' tk F' N' X' T' st kg
  have hz := zig_eq hv1 hv2
  have hz2 := zz_lt hv1 hv2
  generalize hB : Builtin.bitXor (v * 2 ^ Int.toNat 1) (v.fdiv (2 ^ Int.toNat 63)) = B at hz
  k_steps
  all_goals (with_reducible rename Fr _ _ _ _ => kF)
  all_goals dsimp only
  all_goals (rw [hB, hz] at *)
  · refine h _ _ _ _ (size_len 0 (lo := 0) (hi := 128) (by omega) (by omega) (by decide) (by decide)) (fun b o e n => kF.keep _ _ (kg _ _ e n))
  · refine h _ _ _ _ (size_len 1 (lo := 128) (hi := 128^2) (by omega) (by omega) (by decide) (by decide)) (fun b o e n => kF.keep _ _ (kg _ _ e n))
  · refine h _ _ _ _ (size_len 2 (lo := 128^2) (hi := 128^3) (by omega) (by omega) (by decide) (by decide)) (fun b o e n => kF.keep _ _ (kg _ _ e n))
  · refine h _ _ _ _ (size_len 3 (lo := 128^3) (hi := 128^4) (by omega) (by omega) (by decide) (by decide)) (fun b o e n => kF.keep _ _ (kg _ _ e n))
  · refine h _ _ _ _ (size_len 4 (lo := 128^4) (hi := 128^5) (by omega) (by omega) (by decide) (by decide)) (fun b o e n => kF.keep _ _ (kg _ _ e n))
  · refine h _ _ _ _ (size_len 5 (lo := 128^5) (hi := 128^6) (by omega) (by omega) (by decide) (by decide)) (fun b o e n => kF.keep _ _ (kg _ _ e n))
  · refine h _ _ _ _ (size_len 6 (lo := 128^6) (hi := 128^7) (by omega) (by omega) (by decide) (by decide)) (fun b o e n => kF.keep _ _ (kg _ _ e n))
  · refine h _ _ _ _ (size_len 7 (lo := 128^7) (hi := 128^8) (by omega) (by omega) (by decide) (by decide)) (fun b o e n => kF.keep _ _ (kg _ _ e n))
  · refine h _ _ _ _ (size_len 8 (lo := 128^8) (hi := 128^9) (by omega) (by omega) (by decide) (by decide)) (fun b o e n => kF.keep _ _ (kg _ _ e n))
  · refine h _ _ _ _ (size_len 9 (lo := 128^9) (hi := 128^10) (by omega) (by omega) (by decide) (by decide)) (fun b o e n => kF.keep _ _ (kg _ _ e n))
end Vi
namespace Vi
open PySem PySem.W PySem.Calls PyProof.Rows

theorem fill3 : PySem.Challenge.rw_je0012_01 = PySem.Challenge.rw_je0012_01 ∧ Mine.hd.heap_39 = Mine.hd.heap_39 := by w_top off; k_fill; exact ⟨rfl, rfl⟩
theorem draw_range {ns : List Int} {k many : Int} (h : 0 < many) : 0 ≤ draw ns k many ∧ draw ns k many < many := by
  unfold draw
  split
  · exact ⟨Int.fmod_nonneg_of_pos _ h, Int.fmod_lt_of_pos _ h⟩
  · exact ⟨Int.fmod_nonneg_of_pos _ h, Int.fmod_lt_of_pos _ h⟩
theorem news_upd' {g h' : Heap} {L d : Addr} {o o' : Obj} {news news' : List (Addr × Obj)} {h : Heap} (N : News g L h news) (c : Chg [d] h h') (hd : h'.get? d = some o') (U : Upd d o o' news news') : News g L h' news' := by
  obtain ⟨pre, post, rfl, rfl, h1, h2⟩ := U.split
  intro p hp
  rcases List.mem_append.mp hp with q | q
  · have P := N p (List.mem_append_left _ q)
    exact ⟨c _ _ P.1 (by simpa using h1 p q), P.2⟩
  · rcases List.mem_cons.mp q with rfl | q
    · exact ⟨hd, (N (d, o) (by simp)).2⟩
    · have P := N p (List.mem_append_right _ (.tail _ q))
      exact ⟨c _ _ P.1 (by simpa using h2 p q), P.2⟩

theorem clamp_lo (x : Int) : -(2^63) ≤ (if (if x < 2 ^ Int.toNat 63 - 1 then x else 2 ^ Int.toNat 63 - 1) > -2 ^ Int.toNat 63 then (if x < 2 ^ Int.toNat 63 - 1 then x else 2 ^ Int.toNat 63 - 1) else -2 ^ Int.toNat 63) := by
  have e : ((2 : Int) ^ Int.toNat 63) = 9223372036854775808 := by decide
  rw [e]
  (repeat' split) <;> omega
theorem clamp_hi (x : Int) : (if (if x < 2 ^ Int.toNat 63 - 1 then x else 2 ^ Int.toNat 63 - 1) > -2 ^ Int.toNat 63 then (if x < 2 ^ Int.toNat 63 - 1 then x else 2 ^ Int.toNat 63 - 1) else -2 ^ Int.toNat 63) < 2^63 := by
  have e : ((2 : Int) ^ Int.toNat 63) = 9223372036854775808 := by decide
  rw [e]
  (repeat' split) <;> omega

theorem next_call {w : World} {A : Around} {s : Shared} {g : Heap} {L : Addr} {m : Str → Option Value} {mg mb : Str → Option Value} {mean : ExcName → Option Value} {E : Value → Shared → Prop} {Q : Value → Shared → Prop} {news : List (Addr × Obj)}
    {hand scr : Addr} {vs : List Value} {ns : List Int} {k many : Int} {t t₁ : Tok} {n : Nat}
    (hA : A.handled = none) (hd : A.depth < 700) (hu : A.units < 5000) (F : Fr g L s.heap m) (N : News g L s.heap news) (X : (Mine.hd.heap_39 w.params).In g) (T : Top q lse mean mg mb g)
    (hs : g.IsList scr vs.toArray) (hi : IntsAre vs ns) (hlen : ns.length ≤ 63) (hm : (hand, lst [.ref scr, .int k t₁] n) ∈ news)
    (hk0 : 0 ≤ k) (hk1 : k < 1000) (hm0 : 0 < many) (hm1 : many ≤ 10000)
    (h : ∀ h' tk t₂ tv x, Fr g L h' m → (∀ news', Upd hand (lst [.ref scr, .int k t₁] n) (lst [.ref scr, .int (k + 1) t₂] n) news news' → News g L h' news') → 0 ≤ x → x < many →
      Q (.int x tv) { s with heap := h', toks := tk }) :
    wpAny (model pw w) A (call (.ref 43) [.ref hand, .int many t]) Q E s := by
  refine wpAny_call (next_spec hA hd hu F.keep X T ⟨(N _ hm).1, (N _ hm).2.2⟩ hs hi hlen hk0 hk1 hm0 hm1 fun h' tk t₂ tv x hx hc hg => ?_)
  have hr := draw_range (ns := ns) (k := k) hm0
  refine h h' tk t₂ tv x (fr_chg F (fun a ha => ?_) hc) (fun news' U => news_upd' N hc hg U) (by omega) (by omega)
  rcases List.mem_singleton.mp ha with rfl
  exact ⟨(N _ hm).2.2, (N _ hm).2.1⟩

local macro_rules | `(tactic| walk_at "call ref") => `(tactic| ((with_reducible show wpAny _ _ (call (Value.ref _) [Value.ref _, Value.int _ _]) _ _ _); (refine' next_call (by rfl) ?k1 ?k2 (by assumption) (by assumption) (by assumption) (by assumption) (by assumption) (by assumption) (by assumption) ?k3 ?k4 ?k5 ?k6 ?k7 ?_; (case k1 => simp only [depth_deeper]; omega); (case k2 => simp only [units_deeper]; omega); (case k3 => k_mem); (case k4 => omega); (case k5 => omega); (case k6 => decide); (case k7 => decide)); intro h' tk' t2' tv' x' F' hN' lo' hi'; (have N' := hN' _ (by k_upd)); clear hN'; (try dsimp only)))

set_option maxHeartbeats 4000000 in
theorem number_spec {w : World} {A : Around} {s : Shared} {h₀ : Heap} {mg mb : Str → Option Value} {mean : ExcName → Option Value} {R : Result → Shared → Prop} 
    {hand scr : Addr} {vs : List Value} {ns : List Int} {k : Int} {t₁ : Tok} {n : Nat}
    (hA : A.handled = none) (hd : A.depth < 600) (hu : A.units < 4000) (hst : h₀.StaysIn s.heap) (X : (Mine.hd.heap_39 w.params).In h₀) (T : Top q lse mean mg mb h₀)
    (hh : s.heap.get? hand = some (lst [.ref scr, .int k t₁] n) ∧ h₀.get? hand = none)
    (hs : h₀.IsList scr vs.toArray) (hi : IntsAre vs ns) (hlen : ns.length ≤ 63)
    (hk0 : 0 ≤ k) (hk1 : k < 900) 
    (h : ∀ h' tk t₂ tv x k', -(2^63) ≤ x → x < 2^63 → k' = k + 5 → Chg [hand] s.heap h' → h'.get? hand = some (lst [.ref scr, .int k' t₂] n) → R (.ok (.ret (.int x tv))) { s with heap := h', toks := tk }) :
    codeAny (model pw w) A (.call (.ref 57) ⟨[.ref hand], []⟩) R s := by
  obtain ⟨_, dep, fr, gs, un⟩ := A
  dsimp only at hA hd hu
  subst hA
  refine callF (Kf := Mine.hd.heap_39 w.params) (name := "_law_number") (qual := "_law_number") (dV := .none) (binds := [("hand", .ref hand)]) [(hand, lst [.ref scr, .int k t₁] n)] hst X T (fun p hp => by rcases List.mem_singleton.mp hp with rfl; exact hh) (by show dep < 1000; omega) rfl rfl (by rfl) (.of_eq rfl) (locs rfl) ?_
  intro g L h' tk F' N' X' T' st kg
  have hs' := stays_list st hs
  k_steps
  all_goals (with_reducible rename Fr _ _ _ _ => kF; with_reducible rename News _ _ _ _ => kN)
  all_goals (refine h _ _ _ _ _ _ (clamp_lo _) (clamp_hi _) ?_ (fun b o e n => kF.keep _ _ (kg _ _ e n)) (kN _ (.tail _ (.head _))).1)
  all_goals omega
end Vi
namespace Vi
open PySem PySem.W PySem.Calls PyProof.Rows
local macro_rules | `(tactic| walk_at "mine pad F4 0") => `(tactic| skip)
theorem fill4 : PySem.Challenge.rw_je0012_01 = PySem.Challenge.rw_je0012_01 ∧ Mine.hd.heap_39 = Mine.hd.heap_39 := by w_top off; k_fill; exact ⟨rfl, rfl⟩

def octI (s : Shared) (g : Heap) (L fa : Addr) (n0 : Nat) (m0 : Str → Option Value) (n : Nat) (s' : Shared) : Prop :=
  ∃ h' tk t vs ns e, s' = { s with heap := h', toks := tk } ∧ Fr g L h' (fun y => if y = Str.ofString "rest" then some (.int n t) else if y = Str.ofString "found" then some (.ref fa) else m0 y) ∧
    News g L h' [(fa, lst vs e)] ∧ IntsAre vs ns ∧ ns ++ (octs n).map (fun x : Nat => (x : Int)) = (octs n0).map (fun x : Nat => (x : Int)) ∧ n ≤ n0 ∧ vs.length ≤ 1000

theorem octs_init {s : Shared} {g h1 : Heap} {L fa : Addr} {n0 : Nat} {m0 : Str → Option Value} {tk : Nat} {t : Tok} {r : Int} {e : Nat} (hr : r = n0)
    (F : Fr g L h1 (fun y => if y = Str.ofString "found" then some (.ref fa) else if y = Str.ofString "rest" then some (.int r t) else m0 y)) (N : News g L h1 [(fa, lst [] e)]) :
    octI s g L fa n0 m0 n0 { s with heap := h1, toks := tk } := by
  subst hr
  refine ⟨h1, tk, t, [], [], e, rfl, fr_same F fun y => ?_, N, .nil, rfl, Nat.le_refl _, by simp⟩
  by_cases h : y = Str.ofString "rest"
  · subst h
    rw [if_pos rfl, if_neg (by decide), if_pos rfl]
  · rw [if_neg h, if_neg h]

theorem octs_step {s : Shared} {g h1 : Heap} {L fa : Addr} {n0 n : Nat} {m0 : Str → Option Value} {tk : Nat} {t t' t'' : Tok} {e : Nat} {x y : Int} {vs : List Value} {ns : List Int} (hx : x = ((128 + n % 128 : Nat) : Int)) (hy : y = ((n / 128 : Nat) : Int))
    (hi : IntsAre vs ns) (he : ns ++ (octs n).map (fun x : Nat => (x : Int)) = (octs n0).map (fun x : Nat => (x : Int))) (hn : n ≤ n0) (hb : ¬ n < 128) (hl : n0 < 2 ^ 64)
    (F : Fr g L h1 (fun z => if z = Str.ofString "rest" then some (.int y t) else if z = Str.ofString "rest" then some (.int n t') else if z = Str.ofString "found" then some (.ref fa) else m0 z))
    (N : News g L h1 [(fa, listOf (vs.toArray.push (.int x t'')) e)]) : Back (octI s g L fa n0 m0) n { s with heap := h1, toks := tk } := by
  subst hx hy
  rw [List.push_toArray] at N
  have he' : (ns ++ [((128 + n % 128 : Nat) : Int)]) ++ (octs (n / 128)).map (fun x : Nat => (x : Int)) = (octs n0).map (fun x : Nat => (x : Int)) := by
    rw [← he, octs_big hb]; simp
  refine ⟨⟨n / 128, by omega, h1, tk, t, vs ++ [.int _ t''], ns ++ [_], e, rfl, fr_same F fun z => ?_, N, hi.append (.cons _ _ .nil), he', by omega, ?_⟩⟩
  · by_cases h : z = Str.ofString "rest"
    · rw [if_pos h, if_pos h]
    · rw [if_neg h, if_neg h, if_neg h]
  · have h1 := congrArg List.length he'
    have h2 := octs_len_le 9 n0 (by omega)
    have h3 := hi.length
    simp only [List.length_append, List.length_map, List.length_cons, List.length_nil] at h1 ⊢
    omega

theorem octs_end {ns : List Int} {n n0 : Nat} (he : ns ++ (octs n).map (fun x : Nat => (x : Int)) = (octs n0).map (fun x : Nat => (x : Int))) (hn : n < 128) :
    (∀ x ∈ ns ++ [(n : Int)], 0 ≤ x ∧ x < 256) ∧ byteArr (ns ++ [(n : Int)]) = bys n0 := by
  have e : ns ++ [(n : Int)] = (octs n0).map (fun x : Nat => (x : Int)) := by rw [← he, octs_small hn]; rfl
  rw [e]
  refine ⟨fun x hx => ?_, ?_⟩
  · obtain ⟨y, hy, rfl⟩ := List.mem_map.mp hx
    have := octs_lt256 n0 y hy
    omega
  · unfold byteArr bys
    rw [List.map_map]
    rfl

local macro_rules | `(tactic| walk_at "exec While Compare cons nil") => `(tactic| (refine Hold.out ?_))

set_option maxHeartbeats 4000000 in
theorem octets_spec {w : World} {A : Around} {s : Shared} {h₀ : Heap} {mg mb : Str → Option Value} {mean : ExcName → Option Value} {R : Result → Shared → Prop} 
    {v : Int} {t : Tok} (hA : A.handled = none) (hd : A.depth < 700) (hu : A.units < 5000)
    (hst : h₀.StaysIn s.heap) (X : (Mine.hd.heap_39 w.params).In h₀) (T : Top q lse mean mg mb h₀)
    (hv1 : -(2 ^ 63) ≤ v) (hv2 : v < 2 ^ 63)
    (h : ∀ h' tk tv x, x = bys (zz v) → Chg [] s.heap h' → R (.ok (.ret (.bytes x tv))) { s with heap := h', toks := tk }) :
    codeAny (model pw w) A (.call (.ref 50) ⟨[.int v t], []⟩) R s := by
  obtain ⟨_, dep, fr, gs, un⟩ := A
  dsimp only at hA hd hu
  subst hA
  refine callF (Kf := Mine.hd.heap_39 w.params) (name := "_law_octets") (qual := "_law_octets") (dV := .none) (binds := [("value", .int v t)]) [] hst X T (fun p hp => nomatch hp) (by show dep < 1000; omega) rfl rfl (by rfl) (.of_eq rfl) (locs rfl) ?_
  intro g L h' tk F' N' X' T' st kg
  k_steps
  all_goals (rename_i fa _ _ _ kF kN)
  all_goals refine ⟨while_I (octI s g L fa (zz v) (fun y => [(Str.ofString "value", Value.int v t)].reverse.lookup y)) (zz v) ?_ (fun n s' hI => ?_)⟩
  case refine_1 => exact octs_init (zz_pos (by assumption)).symm kF kN
  case refine_1 => exact octs_init (zz_neg (by assumption)).symm kF kN
  all_goals (
    obtain ⟨h1, tk1, t1, vs, ns, e, rfl, F1, N1, hi, he, hn, hvl⟩ := hI
    have e1 : (n : Int).fdiv 128 = ((n / 128 : Nat) : Int) := by rw [Int.fdiv_eq_ediv_of_nonneg _ (by decide)]; omega
    have e2 : 128 + (n : Int).fmod 128 = ((128 + n % 128 : Nat) : Int) := by rw [Int.fmod_eq_emod_of_nonneg _ (by decide)]; omega
    k_steps)
  all_goals (with_reducible rename Fr _ _ _ _ => kF; with_reducible rename News _ _ _ _ => kN)
  all_goals first
    | exact octs_step e2 e1 hi he hn (by omega) (zz_lt hv1 hv2) kF kN
    | (have hb := octs_end he (by omega)
       refine call_bytes_ints (vs := vs ++ [.int n t1]) (ns := ns ++ [(n : Int)]) ⟨_, (kN _ (.head _)).1, rfl, _, rfl⟩ (hi.append (.cons _ _ .nil)) hb.1 ?_ rfl (fun h2 t2 k2 hk2 => ?_)
       · rw [List.length_append, List.length_singleton, sizeLine_eq]; omega
       · exact h _ _ _ _ hb.2 (fun b o e n => hk2 _ _ (kF.keep _ _ (kg _ _ e n))))
end Vi
namespace Vi
open PySem PySem.W PySem.Calls PyProof.Rows
theorem fill5 : PySem.Challenge.rw_je0012_01 = PySem.Challenge.rw_je0012_01 ∧ Mine.hd.heap_39 = Mine.hd.heap_39 := by w_top off; k_fill; exact ⟨rfl, rfl⟩

def ResVal (h h' : Heap) (r : Res) (v : Value) : Prop := match r with
  | .few => ∃ t, v = .str (Str.ofString "few") t
  | .far => ∃ t, v = .str (Str.ofString "far") t
  | .num x e => ∃ T t1 t2, v = .ref T ∧ h.get? T = none ∧ h'.get? T = some (tup [.int x t1, .int e t2])

def plI (s : Shared) (g : Heap) (L it : Addr) (b : Array UInt8) (at' : Nat) (m0 : Str → Option Value) (n : Nat) (s' : Shared) : Prop :=
  ∃ h' tk i tot t kv, n = 10 - i ∧ i ≤ 10 ∧ s' = { s with heap := h', toks := tk } ∧
    Fr g L h' (fun y => if y = Str.ofString "total" then some (.int ((tot : Nat) : Int) t) else if y = Str.ofString "k" then kv else m0 y) ∧
    News g L h' [(it, ri i ((10 : Int) - (i : Nat)))] ∧ goR b at' (10 - i) i tot = readR b at' ∧ tot < 2 ^ (7 * i)

theorem plI_step {s : Shared} {g h1 : Heap} {L it : Addr} {b : Array UInt8} {k i n N : Nat} {m0 : Str → Option Value} {tk : Nat} {t : Tok} {z : Int} {u v v' : Option Value} (h10 : i < 10) (hz : z = (N : Int)) (hg : goR b k (10 - (i + 1)) (i + 1) N = readR b k) (ht : N < 2 ^ (7 * (i + 1))) (hn : n = 10 - i)
    (F : Fr g L h1 (fun y => if y = Str.ofString "total" then some (.int z t) else if y = Str.ofString "k" then u else if y = Str.ofString "total" then v else if y = Str.ofString "k" then v' else m0 y))
    (N' : News g L h1 [(it, ri ((i : Int) + 1) (10 - (i : Int) - 1))]) : Back (plI s g L it b k m0) n { s with heap := h1, toks := tk } := by
  subst hz
  refine ⟨⟨n - 1, by omega, h1, tk, i + 1, N, t, u, by omega, by omega, rfl, fr_same F fun y => ?_, ?_, hg, ht⟩⟩
  · by_cases e1 : y = Str.ofString "total"
    · rw [if_pos e1, if_pos e1]
    · rw [if_neg e1, if_neg e1]
      by_cases e2 : y = Str.ofString "k"
      · rw [if_pos e2, if_pos e2]
      · rw [if_neg e2, if_neg e2, if_neg e1, if_neg e2]
  · rw [show (((i + 1 : Nat)) : Int) = (i : Int) + 1 by omega, show (10 : Int) - ((i : Int) + 1) = 10 - (i : Int) - 1 by omega]
    exact N'

local macro_rules | `(tactic| walk_at "exec For Name Call cons nil") => `(tactic| (refine Hold.out ?_))
local macro_rules | `(tactic| walk_at "pyIter ref") => `(tactic| ((with_reducible show wpAny _ _ (pyIter (Value.ref _)) _ _ _); (refine' range_iter_N ?k1 ?k2 ?k3 ?k4 ?_; (case k1 => k_asm); (case k2 => k_asm); (case k3 => k_asm); (case k4 => decide +kernel)); intro h' it F' N' l1))
local macro_rules | `(tactic| walk_at "call builtin:len") => `(tactic| ((with_reducible show wpAny _ _ (call (Value.builtin _) [Value.ref _]) _ _ _); (refine' len_ba ?k1 ?k2 ?_; (case k1 => exact Fr.keep (by assumption) _ _ (by assumption)); (case k2 => rw [sizeLine_eq]; omega)); intro tk' t'))
local macro_rules | `(tactic| walk_at "subscriptTail") => `(tactic| ((with_reducible show wpAny _ _ (subscriptTail _ _ (Value.ref _) (Value.int _ _)) _ _ _); with_unfolding_all (refine' item_baG ?k1 ?k2 ?k3 ?k4 ?_ ?k5; (case k1 => exact Fr.keep (by assumption) _ _ (by assumption)); (case k2 => omega); (case k3 => omega); (case k4 => rw [sizeLine_eq]; omega); (case k5 => with_unfolding_all rfl)); intro t' tk'))

set_option maxHeartbeats 4000000 in
theorem plain_spec {w : World} {A : Around} {s : Shared} {h₀ : Heap} {mg mb : Str → Option Value} {mean : ExcName → Option Value} {R : Result → Shared → Prop} 
    {a : Addr} {b : Array UInt8} {k : Nat} {t : Tok} (hA : A.handled = none) (hd : A.depth < 700) (hu : A.units < 5000)
    (hst : h₀.StaysIn s.heap) (X : (Mine.hd.heap_39 w.params).In h₀) (T : Top q lse mean mg mb h₀)
    (ha : s.heap.get? a = some (ba b)) (hb : b.size ≤ 1000) (hk : k ≤ 1000)
    (h : ∀ h' tk v, ResVal s.heap h' (readR b k) v → Chg [] s.heap h' → R (.ok (.ret v)) { s with heap := h', toks := tk }) :
    codeAny (model pw w) A (.call (.ref 64) ⟨[.ref a, .int k t], []⟩) R s := by
  obtain ⟨_, dep, fr, gs, un⟩ := A
  dsimp only at hA hd hu
  subst hA
  refine callF (Kf := Mine.hd.heap_39 w.params) (name := "_law_plain") (qual := "_law_plain") (dV := .none) (binds := [("octets", .ref a), ("at", .int k t)]) [] hst X T (fun p hp => nomatch hp) (by show dep < 1000; omega) rfl rfl (by rfl) (.of_eq rfl) (locs rfl) ?_
  intro g L h' tk F' N' X' T' st kg
  have ha' := kg _ _ ha (by simp)
  k_steps
  refine ⟨wpAny_For ?_⟩
  k_steps
  rename_i it kF kN l1
  refine loop_I (plI s g L it b k (fun y => [(Str.ofString "octets", Value.ref a), (Str.ofString "at", Value.int k t)].reverse.lookup y)) 10 ?_ (fun n s' hI => ?_)
  · exact ⟨_, _, 0, 0, _, none, rfl, by omega, rfl, fr_same kF fun y => by
      by_cases e : y = Str.ofString "k"
      · subst e; rfl
      · rw [if_neg e]; rfl, kN, rfl, by decide⟩
  · obtain ⟨h1, tk1, i, tot, t1, kv, hn, hi, rfl, F1, N1, hg, ht⟩ := hI
    have fresh : ∀ T, g.get? T = none → s.heap.get? T = none := fun T e => by
      cases q : s.heap.get? T with
      | none => rfl
      | some o => have := kg _ _ q (by simp); rw [e] at this; cases this
    by_cases h10 : i < 10
    · have hT : ((tot : Nat) : Int) + (((b.getD ((k : Int) + (i : Int)).toNat 0).toNat : Nat) : Int).fmod 128 * 2 ^ ((7 : Int) * (i : Int)).toNat = ((tot + (b.getD (k + i) 0).toNat % 128 * 2 ^ (7 * i) : Nat) : Int) := by
        rw [Int.fmod_eq_emod_of_nonneg _ (by decide), show ((k : Int) + (i : Int)).toNat = k + i by omega, show ((7 : Int) * (i : Int)).toNat = 7 * i by omega]
        push_cast
        rfl
      have hx : (b.getD ((k : Int) + (i : Int)).toNat 0) = b.getD (k + i) 0 := by rw [show ((k : Int) + (i : Int)).toNat = k + i by omega]
      have hE : (k : Int) + (i : Int) + 1 = ((k + i + 1 : Nat) : Int) := by omega
      have ht' := tot_lt (x := (b.getD (k + i) 0).toNat) ht
      refine range_next_N F1 N1 (.head fun p hp => nomatch hp) (by omega) fun h2 t2 tk2 F2 N2 => ?_
      dsimp only
      k_steps
      all_goals (with_reducible rename Fr _ _ _ _ => kF; with_reducible rename News _ _ _ _ => kN)
      · refine h _ _ _ ?_ (fun b o e n => kF.keep _ _ (kg _ _ e n))
        rw [← hg, goR_few h10 (by omega)]
        exact ⟨_, rfl⟩
      · have hlt : (((b.getD ((k : Int) + (i : Int)).toNat 0).toNat : Nat) : Int) < 128 := by assumption
        refine h _ _ _ ?_ (fun b o e n => kF.keep _ _ (kg _ _ e n))
        rw [uz_even hT (by assumption), hE] at kN
        rw [hx] at hlt
        rw [← hg, goR_num h10 (by omega) (by omega)]
        exact ⟨_, _, _, rfl, fresh _ (kN _ (.head _)).2.2, (kN _ (.head _)).1⟩
      · have hlt : (((b.getD ((k : Int) + (i : Int)).toNat 0).toNat : Nat) : Int) < 128 := by assumption
        refine h _ _ _ ?_ (fun b o e n => kF.keep _ _ (kg _ _ e n))
        rw [uz_odd hT (by assumption), hE] at kN
        rw [hx] at hlt
        rw [← hg, goR_num h10 (by omega) (by omega)]
        exact ⟨_, _, _, rfl, fresh _ (kN _ (.head _)).2.2, (kN _ (.head _)).1⟩
      · have hlt : ¬ (((b.getD ((k : Int) + (i : Int)).toNat 0).toNat : Nat) : Int) < 128 := by assumption
        rw [hx] at hlt
        exact plI_step h10 hT ((goR_more h10 (by omega) (by omega)).symm.trans hg) ht' hn kF kN
    · refine range_end_N rfl F1 N1 (fun p hp => nomatch hp) (by omega) fun h2 F2 N2 => ?_
      dsimp only
      k_steps
      refine h _ _ _ ?_ (fun b o e n => F2.keep _ _ (kg _ _ e n))
      have : i = 10 := by omega
      subst this
      rw [← hg]
      exact ⟨_, rfl⟩
end Vi
namespace Vi
open PySem PySem.W PySem.Calls PyProof.Rows
local macro_rules | `(tactic| walk_at "mine pad F6 0") => `(tactic| skip)
theorem fill6 : PySem.Challenge.rw_je0012_01 = PySem.Challenge.rw_je0012_01 ∧ Mine.hd.heap_39 = Mine.hd.heap_39 := by w_top off; k_fill; exact ⟨rfl, rfl⟩

local macro_rules | `(tactic| walk_at "exec While") => `(tactic| (refine Hold.out ?_))
local macro_rules | `(tactic| walk_at "subscriptTail") => `(tactic| ((with_reducible show wpAny _ _ (subscriptTail _ _ (Value.ref _) (Value.int _ _)) _ _ _); with_unfolding_all first
  | (refine' item_baG ?k1 ?k2 ?k3 ?k4 ?_ ?k5; (case k1 => exact Fr.keep (by assumption) _ _ (by assumption)); (case k2 => omega); (case k3 => omega); (case k4 => rw [sizeLine_eq]; omega); (case k5 => with_unfolding_all rfl); intro t' tk')
  | (refine' item_baX ?k0 ?k1 ?k2 ?k3 ?k4 ?_ ?k5; (case k0 => rfl); (case k1 => exact Fr.keep (by assumption) _ _ (by assumption)); (case k2 => omega); (case k3 => omega); (case k4 => omega); (case k5 => with_unfolding_all rfl); intro h' tk' e' hexc)))

local macro_rules | `(tactic| walk_at "leaving ref") => `(tactic| first
  | ((refine' leave_newS ?k1 ?k0 ?k2 ?k3 ?_; (case k0 => assumption); (case k2 => assumption); (case k1 => assumption); (case k3 => k_asm)); intro h' S' R' U'; (try dsimp only))
  | ((refine' leave_raiseS ?k1 ?k0 ?k2 ?k3 ?_; (case k0 => assumption); (case k2 => assumption); (case k1 => assumption); (case k3 => k_asm)); intro h' t' S' R' U'; (try dsimp only)))

local macro_rules | `(tactic| walk_at "binaryOp LShift int int") => `(tactic| ((refine lshift_int_small ?ka ?kb ?kc ?_); (case ka => omega); (case kb => omega); (case kc => (rw [bitAnd_m7]; omega))))

def deI (s : Shared) (b : Array UInt8) (k : Nat) (m0 : Str → Option Value) (n : Nat) (s' : Shared) : Prop :=
  ∃ h' tk i tot t1 t2 t3 bv, n = 10 - i ∧ 1 ≤ i ∧ i ≤ 9 ∧ s' = { s with heap := h', toks := tk } ∧
    Fr s.heap s.heap.objs.size h' (fun y => if y = Str.ofString "shift" then some (.int ((7 * i : Nat) : Int) t1) else if y = Str.ofString "pos" then some (.int ((k + i : Nat) : Int) t2) else
      if y = Str.ofString "result" then some (.int ((tot : Nat) : Int) t3) else if y = Str.ofString "b" then bv else m0 y) ∧
    goR b k (10 - i) i tot = readR b k ∧ tot < 2 ^ (7 * i)

theorem deI_init {s : Shared} {h1 : Heap} {b : Array UInt8} {k tk : Nat} {t1 t2 t3 : Tok} {z p : Int} {u : Option Value} {m0 : Str → Option Value} (h0 : k < b.size) (hx : ¬ (b.getD k 0).toNat < 128) (hz : z = (((b.getD k 0).toNat % 128 : Nat) : Int)) (hp : p = ((k + 1 : Nat) : Int)) (hm : m0 (Str.ofString "b") = none)
    (F : Fr s.heap s.heap.objs.size h1 (fun y => if y = Str.ofString "shift" then some (.int 7 t1) else if y = Str.ofString "pos" then some (.int p t2) else if y = Str.ofString "result" then some (.int z t3) else if y = Str.ofString "result" then u else m0 y)) :
    deI s b k m0 9 { s with heap := h1, toks := tk } := by
  subst hz hp
  refine ⟨h1, tk, 1, (b.getD k 0).toNat % 128, t1, t2, t3, none, rfl, by omega, by omega, rfl, fr_same F fun y => ?_, ?_, by omega⟩
  · by_cases e1 : y = Str.ofString "shift"
    · rw [if_pos e1, if_pos e1]; rfl
    rw [if_neg e1, if_neg e1]
    by_cases e2 : y = Str.ofString "pos"
    · rw [if_pos e2, if_pos e2]
    rw [if_neg e2, if_neg e2]
    by_cases e3 : y = Str.ofString "result"
    · rw [if_pos e3, if_pos e3]
    rw [if_neg e3, if_neg e3, if_neg e3]
    by_cases e4 : y = Str.ofString "b"
    · rw [if_pos e4, e4, hm]
    · rw [if_neg e4]
  · have := goR_more (b := b) (k := k) (i := 0) (tot := 0) (by omega) (by omega) hx
    rw [readR]
    simpa using this.symm

theorem deI_step {s : Shared} {h1 : Heap} {b : Array UInt8} {k i n N tk : Nat} {t1 t2 t3 : Tok} {z p sh : Int} {u1 u2 u3 u4 u5 : Option Value} {m0 : Str → Option Value} (hn : n = 10 - i) (h1' : 1 ≤ i) (h9 : i < 9) (hz : z = (N : Int)) (hp : p = ((k + (i + 1) : Nat) : Int)) (hs : sh = ((7 * (i + 1) : Nat) : Int))
    (hg : goR b k (10 - (i + 1)) (i + 1) N = readR b k) (ht : N < 2 ^ (7 * (i + 1)))
    (F : Fr s.heap s.heap.objs.size h1 (fun y => if y = Str.ofString "shift" then some (.int sh t1) else if y = Str.ofString "pos" then some (.int p t2) else if y = Str.ofString "result" then some (.int z t3) else if y = Str.ofString "b" then u1 else
      if y = Str.ofString "shift" then u2 else if y = Str.ofString "pos" then u3 else if y = Str.ofString "result" then u4 else if y = Str.ofString "b" then u5 else m0 y)) :
    Back (deI s b k m0) n { s with heap := h1, toks := tk } := by
  subst hz hp hs
  refine ⟨⟨n - 1, by omega, h1, tk, i + 1, N, t1, t2, t3, u1, by omega, by omega, by omega, rfl, fr_same F fun y => ?_, hg, ht⟩⟩
  by_cases e1 : y = Str.ofString "shift"
  · rw [if_pos e1, if_pos e1]
  rw [if_neg e1, if_neg e1]
  by_cases e2 : y = Str.ofString "pos"
  · rw [if_pos e2, if_pos e2]
  rw [if_neg e2, if_neg e2]
  by_cases e3 : y = Str.ofString "result"
  · rw [if_pos e3, if_pos e3]
  rw [if_neg e3, if_neg e3]
  by_cases e4 : y = Str.ofString "b"
  · rw [if_pos e4, if_pos e4]
  rw [if_neg e4, if_neg e4, if_neg e1, if_neg e2, if_neg e3, if_neg e4]

set_option maxHeartbeats 4000000 in
theorem decode_spec {w : World} {A : Around} {s : Shared} {base : Heap} {outer : List Env} {mg mb : Str → Option Value} {mean : ExcName → Option Value} {R : Result → Shared → Prop} {args : Args}
    {a : Addr} {b : Array UInt8} {k : Nat} {t : Tok} (hA : A.handled = none) (hd : A.depth < 700) (hu : A.units < 5000) (hB : Below A base outer s.heap)
    (X : (Mine.hd.heap_39 w.params).In s.heap) (T : Top q lse mean mg mb s.heap)
    (ha : s.heap.get? a = some (ba b)) (hb : b.size ≤ 1000) (hk : k ≤ 1000)
    (hbind : ∀ o fd, (Mine.hd.heap_39 w.params).lookup 36 = some o → o.data = .func fd → BindsTo s fd args [("buffer", .ref a), ("pos", .int k t)])
    (hnum : ∀ h' tk v x e, readR b k = .num x e → (∃ T t1 t2, v = .ref T ∧ s.heap.get? T = none ∧ h'.get? T = some (tup [.int x t1, .int (e : Nat) t2])) → Chg [] s.heap h' → R (.ok (.ret v)) { s with heap := h', toks := tk })
    (hexc : ∀ h' tk e X, (readR b k = .few ∧ X = "IndexError" ∨ readR b k = .far ∧ X = "ValueError") → RaisedSN base s.heap outer e (.type X) [] h' → s.heap.UpToSlots h' → R (.error (.ref e)) { s with heap := h', toks := tk }) :
    codeAny (model pw w) A (.call (.ref 36) args) R s := by
  obtain ⟨_, dep, fr, gs, un⟩ := A
  dsimp only at hA hd hu
  subst hA
  refine call_methW (name := "decode_varint") (qual := "decode_varint") (dV := .ref 29) (by show dep < 1000; omega) (X _ _ rfl) rfl T.nolimit (codeRec_of X (by rfl)) (hbind _ _ rfl rfl) (locs rfl) ?_
  intro h' F'
  have N' : News s.heap s.heap.objs.size h' [] := News.nil
  have hlt : (b.getD k 0).toNat < 256 := UInt8.toNat_lt _
  have hkk : (k : Int).toNat = k := by omega
  have fresh : ∀ T, s.heap.get? T = none → s.heap.get? T = none := fun T e => e
  by_cases h0 : k < b.size
  · have r1 : ∀ x, (b.getD k 0).toNat < 128 → x = uz (b.getD k 0).toNat → readR b k = .num x (k + 1) := fun x h1 hx => by
      have := goR_num (b := b) (k := k) (i := 0) (tot := 0) (by omega) (by omega) h1
      simp only [Nat.add_zero, Nat.mul_zero, Nat.pow_zero, Nat.mul_one, Nat.zero_add, Nat.sub_zero] at this
      rw [Nat.mod_eq_of_lt h1] at this
      rw [readR, hx]
      exact this
    k_steps
    all_goals (with_reducible rename Fr _ _ _ _ => kF; with_reducible rename News _ _ _ _ => kN)
    · have hx0 : Builtin.bitAnd (((b.getD (k : Int).toNat 0).toNat : Nat) : Int) 128 ≠ 0 := by assumption
      rw [hkk] at hx0 kF
      have hx := dec_more hlt hx0
      refine ⟨while_P (deI s b k (fun y => [(Str.ofString "buffer", Value.ref a), (Str.ofString "pos", Value.int k t)].reverse.lookup y)) 9 (deI_init h0 hx (bitAnd_m7 _) (by omega) (by rfl) kF) PassesOwn.leaving (fun n s' hI => ?_)⟩
      obtain ⟨h1, tk1, i, tot, t1, t2, t3, bv, hn, hi1, hi9, rfl, F1, hg, ht⟩ := hI
      have N1 : News s.heap s.heap.objs.size h1 [] := News.nil
      have hlt' : (b.getD (k + i) 0).toNat < 256 := UInt8.toNat_lt _
      have hkk' : ((k + i : Nat) : Int).toNat = k + i := by omega
      by_cases hin : k + i < b.size
      · have hor := or_step (x := (b.getD (k + i) 0).toNat) (sh := ((7 * i : Nat) : Int)) rfl ht
        have ht' := tot_lt (x := (b.getD (k + i) 0).toNat) ht
        k_steps
        · have hx2 : Builtin.bitAnd (((b.getD ((k + i : Nat) : Int).toNat 0).toNat : Nat) : Int) 128 ≠ 0 := by assumption
          rw [hkk'] at hx2
          have h9 : i = 9 := by omega
          refine hexc _ _ _ _ (.inr ⟨?_, rfl⟩) (by assumption) (by assumption)
          rw [← hg, goR_more (by omega) hin (dec_more hlt' hx2), h9]
          rfl
        · have hx2 : Builtin.bitAnd (((b.getD ((k + i : Nat) : Int).toNat 0).toNat : Nat) : Int) 128 ≠ 0 := by assumption
          (with_reducible rename Fr _ _ _ _ => kF)
          rw [hkk'] at hx2 kF
          exact deI_step hn hi1 (by omega) hor (by omega) (by omega) ((goR_more (by omega) hin (dec_more hlt' hx2)).symm.trans hg) ht' kF
        · have hx2 : Builtin.bitAnd (((b.getD ((k + i : Nat) : Int).toNat 0).toNat : Nat) : Int) 128 = 0 := by assumption
          (with_reducible rename Fr _ _ _ _ => kF; with_reducible rename News _ _ _ _ => kN)
          rw [hkk'] at hx2 kN
          rw [dec_ret hor, show ((k + i : Nat) : Int) + 1 = ((k + i + 1 : Nat) : Int) by omega] at kN
          have h3 := dec_last hlt' hx2
          refine hnum _ _ _ _ _ (hg.symm.trans (goR_num (by omega) hin h3)) ⟨_, _, _, rfl, (kN _ (.head _)).2.2, (kN _ (.head _)).1⟩ (fun b o e n => kF.keep _ _ e)
      · k_steps
        refine hexc _ _ _ _ (.inl ⟨?_, rfl⟩) (by assumption) (by assumption)
        rw [← hg, goR_few (by omega) (by omega)]
    · have hx0 : Builtin.bitAnd (((b.getD (k : Int).toNat 0).toNat : Nat) : Int) 129 ≠ 0 := by assumption
      have hx1 : Builtin.bitAnd (((b.getD (k : Int).toNat 0).toNat : Nat) : Int) 128 = 0 := by assumption
      rw [hkk] at hx0 hx1 kN
      obtain ⟨e1, e2⟩ := dec_odd hlt hx0 hx1
      rw [e2, show (k : Int) + 1 = ((k + 1 : Nat) : Int) by omega] at kN
      exact hnum _ _ _ _ _ (r1 _ e1 rfl) ⟨_, _, _, rfl, (kN _ (.head _)).2.2, (kN _ (.head _)).1⟩ (fun b o e n => kF.keep _ _ e)
    · have hx0 : Builtin.bitAnd (((b.getD (k : Int).toNat 0).toNat : Nat) : Int) 129 = 0 := by assumption
      rw [hkk] at hx0 kN
      obtain ⟨e1, e2⟩ := dec_even hlt hx0
      rw [e2, show (k : Int) + 1 = ((k + 1 : Nat) : Int) by omega] at kN
      exact hnum _ _ _ _ _ (r1 _ e1 rfl) ⟨_, _, _, rfl, (kN _ (.head _)).2.2, (kN _ (.head _)).1⟩ (fun b o e n => kF.keep _ _ e)
  · k_steps
    refine hexc _ _ _ _ (.inl ⟨?_, rfl⟩) (by assumption) (by assumption)
    exact goR_few (i := 0) (by omega) (by omega)
end Vi
namespace Vi
open PySem PySem.W PySem.Calls PyProof.Rows
theorem fill7 : PySem.Challenge.rw_je0012_01 = PySem.Challenge.rw_je0012_01 ∧ Mine.hd.heap_39 = Mine.hd.heap_39 := by w_top off; k_fill; exact ⟨rfl, rfl⟩

local macro_rules | `(tactic| walk_at "call ref") => `(tactic| (refine Hold.out ?_))

set_option maxHeartbeats 4000000 in
theorem told_spec {w : World} {A : Around} {s : Shared} {base : Heap} {outer : List Env} {mg mb : Str → Option Value} {mean : ExcName → Option Value} {R : Result → Shared → Prop}
    {a : Addr} {b : Array UInt8} {k : Nat} {t : Tok} (hA : A.handled = none) (hd : A.depth < 600) (hu : A.units < 4000) (hB : Below A base outer s.heap)
    (X : (Mine.hd.heap_39 w.params).In s.heap) (T : Top q lse mean mg mb s.heap) (XB : (Mine.hd.heap_39 w.params).In base) (TB : Top q lse mean mg mb base) (D : KtsDicts (outer.filterMap (·.frame)) s.heap)
    (ha : s.heap.get? a = some (ba b)) (hb : b.size ≤ 1000) (hk : k ≤ 1000)
    (h : ∀ h' g' tk v, KtsTurn (outer.filterMap (·.frame)) s.heap g' → g'.StaysIn h' → ResVal s.heap h' (readR b k) v → R (.ok (.ret v)) { s with heap := h', toks := tk }) :
    codeAny (model pw w) A (.call (.ref 71) ⟨[.ref a, .int k t], []⟩) R s := by
  obtain ⟨_, dep, fr, gs, un⟩ := A
  dsimp only at hA hd hu
  subst hA
  refine call_methW (name := "_law_told") (qual := "_law_told") (dV := .none) (binds := [("octets", .ref a), ("at", .int k t)]) (by show dep < 1000; omega) (X _ _ rfl) rfl T.nolimit (codeRec_of X (by rfl)) (.of_eq rfl) (locs rfl) ?_
  intro h' F'
  have N' : News s.heap s.heap.objs.size h' [] := News.nil
  k_steps
  refine ⟨wpAny_call (decode_spec (t := t) rfl (by simp only [depth_deeper]; omega) (by simp only [units_deeper]; omega) (hB.push F') (X.keeps F'.keep) (T.keeps F'.keep) (F'.keep _ _ ha) hb hk (fun o fd h1 h2 => ?_) (fun h2 tk2 v x e hr hv hc => ?_) (fun h2 tk2 e Xc hr hR hU => ?_))⟩
  · cases h1; cases h2; exact binds_K (X.keeps F'.keep) rfl (by k_is) rfl rfl rfl
  · obtain ⟨Tt, t1, t2, hv1, hv2, hv3⟩ := hv
    refine h h2 _ _ _ KtsTurn.refl (fun b' o' e' => hc _ _ (F'.keep _ _ e') (by simp)) ?_
    rw [hr]
    refine ⟨Tt, t1, t2, hv1, ?_, hv3⟩
    cases q : s.heap.get? Tt with
    | none => rfl
    | some o => have := F'.keep _ _ q; rw [hv2] at this; cases this
  · rcases hr with ⟨hr, rfl⟩ | ⟨hr, rfl⟩
    · dsimp only
      k_steps
      refine h _ _ _ _ (by assumption) (Fr.keep (by assumption)) ?_
      rw [hr]
      exact ⟨_, rfl⟩
    · dsimp only
      k_steps
      refine h _ _ _ _ (by assumption) (Fr.keep (by assumption)) ?_
      rw [hr]
      exact ⟨_, rfl⟩
end Vi
namespace Vi
open PySem PySem.W PySem.Calls PyProof.Rows
open Mine (okCode OkB wpC codeC ownC wpC_of_any codeC_of_any wpC_pure wpC_mono wpC_bind wpC_bindA wpC_holding wpC_keep wpC_onRaise wpC_run wpC_runValue wpC_call codeC_mono codeC_of_own ownC_of_wpC ownC_of_any ownC_bind codeC_of_tree ownC_stack)

/-- nothing is raised -/
abbrev noE : Value → Shared → Prop := fun _ _ => False

section
variable {prog : Program} {w : World} {A : Around} {E : Value → Shared → Prop} {s : Shared} {env : Env}

theorem plainAttrs_ba : PlainAttrs "bytearray" :=
  ⟨⟨"bytearray.__getattribute__", by rw [typeLookup_type, builtinLookup_eq_fast]; kernel_rfl, by decide +kernel⟩, by rw [typeLookup_type, builtinLookup_eq_fast]; kernel_rfl⟩
theorem type_ba_append : typeOf (.builtin "bytearray.append") = pure (.type "method_descriptor") := by show builtinType _ = _; rw [builtinType_eq_fast]; kernel_rfl

theorem wpC_execs_cons {st : Stmt} {rest : List Stmt} {Q : Flow → Shared → Prop}
    (h : wpC (model prog w) A (exec st env) (fun f s' => match f with | .next => wpC (model prog w) A (execs rest env) Q E s' | f => Q f s') E s) :
    wpC (model prog w) A (execs (st :: rest) env) Q E s := by
  rw [execs_cons]
  refine wpC_bind (wpC_mono h (fun f s' h' => ?_) fun _ _ x => x)
  cases f <;> first | exact h' | exact wpC_pure h'

/-- a statement that the library walks -/
theorem stA {st : Stmt} {rest : List Stmt} {Q : Flow → Shared → Prop}
    (h : wpAny (model prog w) A (exec st env) (fun f s' => match f with | .next => Hold (wpC (model prog w) A (execs rest env) Q E s') | .brk => Q .brk s' | .cont => Q .cont s' | .ret v => Q (.ret v) s') E s) :
    wpC (model prog w) A (execs (st :: rest) env) Q E s := by
  refine wpC_execs_cons (wpC_of_any (wpAny_mono h (fun f s' h' => ?_) fun _ _ x => x))
  cases f <;> first | exact h'.out | exact h'

theorem ifC {test : Expr} {body orelse : List Stmt} {pos : Pos} {Q : Flow → Shared → Prop}
    (h : wpAny (model prog w) A (isTrue test env (eval test env))
      (fun b s₂ => if b then Hold (wpC (model prog w) A (execs body env) Q E s₂) else Hold (wpC (model prog w) A (execs orelse env) Q E s₂)) E s) :
    wpC (model prog w) A (exec (.If test body orelse pos) env) Q E s := by
  rw [exec_If]
  refine wpC_bindA (wpAny_standAt (wpC_bindA (wpAny_mono h (fun b s₂ h₂ => ?_) fun _ _ x => x)))
  cases b
  · exact h₂.out
  · exact h₂.out

theorem wpC_dropValue {e : Expr} {pos : Pos} {v : Value} {Q : Flow → Shared → Prop} (h : Q .next s) : wpC (model prog w) A (dropValue e pos v) Q E s := wpC_of_any (wpAny_dropValue h)

theorem appC {n : Str} {np apos pos pos' : Pos} {e : Expr} {rest : List Stmt} {a : Addr} {b : Array UInt8} {Q : Flow → Shared → Prop} 
    (h : wpAny (model prog w) A (eval (.Name n np) env) (fun v s₁ => Hold (v = .ref a ∧ s₁.heap.get? a = some (ba b) ∧ b.size + 1 ≤ sizeLine ∧
      wpAny (model prog w) A (eval e env) (fun x s₂ => Hold (∃ (k : Nat) (t : Tok), x = .int k t ∧ k < 256 ∧ s₂.heap.get? a = some (ba b) ∧
        ∀ h', Chg [a] s₂.heap h' → h'.get? a = some (ba (b.push (UInt8.ofNat k))) → wpC (model prog w) A (execs rest env) Q E { s₂ with heap := h' })) E s₁)) E s)
    (hbase : attributeBase (.Name n np) "append" env (eval (.Name n np) env) = eval (.Name n np) env := by rfl)
    (hs : starEach [e] env = [(false, eval e env)] := by rfl) (hline : (apos.endLine == pos.line) = true := by decide)
    (hi : interactive env = false := by rfl) (hsw : swapsWith (.Call (.Attribute (.Name n np) "append" apos) [e] [] pos) none pos'.line env = pure false := by rfl) :
    wpC (model prog w) A (execs (.Expr (.Call (.Attribute (.Name n np) "append" apos) [e] [] pos) pos' :: rest) env) Q E s := by
  refine wpC_execs_cons ?_
  rw [exec_Expr env _ pos' hi hsw]
  refine wpC_bindA (wpAny_standAt ?_)
  refine wpC_bind ?_
  rw [arm_eval_Call, hbase]
  refine wpC_bindA (wpAny_mono h (fun ov s₁ h₁ => ?_) fun _ _ x => x)
  obtain ⟨rfl, ha, hz, he⟩ := h₁.out
  refine wpC_bindA (wpAny_standAt ?_)
  have hform : methodCallForm ([e].length + ([] : List Keyword).length) (backTo pos (starEach [e] env)) (backToKw pos (keywordEach [] env)) = true := by rw [hs]; rfl
  have hpos : methodCallPos true (.Name n np) env apos pos = pure pos := by unfold methodCallPos; simp [hline]
  unfold methodCall
  rw [hform]
  refine wpC_bindA (wpAny_holding (getMethod_builtin (ba_typeIs ha) plainAttrs_ba slot_ba_append type_ba_append (fun a' e' => by cases e'; exact ⟨_, ha, rfl⟩) ?_))
  refine wpC_bindA (wpAny_of_eq hpos ?_)
  rw [hs]
  unfold callWith
  refine wpC_bindA (wpAny_holding (Calls.evalArgs_plain (Calls.spliced_cons (wpAny_mono he (fun x s₂ h₂ => Calls.spliced_nil ?_) fun _ _ x => x))))
  obtain ⟨k, t, rfl, hk, ha2, hc⟩ := h₂.out
  refine wpC_bindA (wpAny_standAt ?_)
  refine wpC_bindA (wpAny_pure ?_)
  refine wpC_bind (append_C (t := t) ha2 hk hz fun h' c1 c2 => ?_)
  refine wpC_bindA (wpAny_holding (wpAny_point ?_))
  refine wpC_pure (wpC_dropValue (hc h' c1 c2))

theorem codeC_loop {M : Model} {c : Code} {R : Result → Shared → Prop} (hq : c.quiet = true) (hk : okCode c = true) (I : Nat → Shared → Prop)
    (turn : ∀ n s, I n s → wpC M (A.under c) (M.den c)
      (fun fin s' => match fin with
        | .done f => R (.ok f) s'
        | .again c' => (c' = c ∧ ∃ m, m < n ∧ I m s') ∨ (c'.quiet = true ∧ codeC M A c' R s')) (fun e s' => R (.error e) s') s)
    (n : Nat) (h : I n s) : codeC M A c R s := by
  induction n using Nat.strongRecOn generalizing s with
  | ind n ih =>
    refine codeC_of_tree hk (wpC_mono (turn n s h) (fun fin s' hf => ?_) fun _ _ h' => h')
    cases fin with
    | done f => exact hf
    | again c' =>
      rcases hf with ⟨rfl, m, hm, hI⟩ | hf
      · exact ⟨hq, ih m hm hI⟩
      · exact hf

theorem wpC_noted {M : Model} {α : Type} {m : Sem α} {Q : α → Shared → Prop} (h : wpC M A m Q noE s) : wpC M A (m.onRaise fun x => do noteFrame x env; theTreesLotGoes x) Q E s :=
  wpC_onRaise (wpC_mono h (fun _ _ q => q) fun _ _ hx => hx.elim)

theorem wpC_runOwn {c : Code} {Q : Flow → Shared → Prop}
    (hc : codeC (model prog w) A c (fun r s' => match r with | .ok f => Q f s' | .error _ => False) s) :
    wpC (model prog w) A (runOwn c env) Q E s := by
  unfold runOwn
  exact wpC_onRaise (wpC_run (codeC_mono hc (fun r s' h' => by cases r with | ok f => exact h' | error e => exact h'.elim)) (by intro x; cases x))

theorem whileC {test : Expr} {body : List Stmt} {pos : Pos} {Q : Flow → Shared → Prop} (I : Nat → Shared → Prop) (n : Nat) (h : I n s)
    (turn : ∀ n s, I n s → wpAny (model prog w) A (isTrue test env (eval test env)) (fun b s₂ =>
       if b then Hold (wpC (model prog w) A (execs body env) (fun f s₃ => match f with | .next => Back I n s₃ | _ => False) noE s₂)
       else Q .next s₂) noE s) :
    wpC (model prog w) A (exec (.While test body [] pos) env) Q E s := by
  rw [exec_While]
  refine wpC_bindA (wpAny_standAt (wpC_runOwn (codeC_loop rfl rfl I (fun n s hI => ?_) n h)))
  show wpC _ A ((whileTurn test body [] env).onRaise (fun x => do noteFrame x env; theTreesLotGoes x)) _ _ s
  refine wpC_noted ?_
  simp only [whileTurn]
  refine wpC_bindA (wpAny_mono (turn n s hI) (fun b s₂ h₂ => ?_) fun _ _ h' => h')
  cases b with
  | false =>
    simp only [Bool.false_eq_true, if_false] at h₂ ⊢
    exact wpC_bindA (wpAny_execs_nil (wpC_pure h₂))
  | true =>
    simp only [if_true] at h₂ ⊢
    refine wpC_bind (wpC_mono h₂.out (fun f s₃ h₃ => ?_) fun _ _ h' => h')
    cases f with
    | next => exact wpC_pure (.inl ⟨rfl, h₃.out⟩)
    | cont => exact h₃.elim
    | brk => exact h₃.elim
    | ret v => exact h₃.elim

theorem whileS {test : Expr} {body rest : List Stmt} {pos : Pos} {Q : Flow → Shared → Prop} (I : Nat → Shared → Prop) (n : Nat) (h : I n s)
    (turn : ∀ n s, I n s → wpAny (model prog w) A (isTrue test env (eval test env)) (fun b s₂ =>
       if b then Hold (wpC (model prog w) A (execs body env) (fun f s₃ => match f with | .next => Back I n s₃ | _ => False) noE s₂)
       else Hold (wpC (model prog w) A (execs rest env) Q E s₂)) noE s) :
    wpC (model prog w) A (execs (.While test body [] pos :: rest) env) Q E s := by
  refine wpC_execs_cons (whileC I n h fun n s hI => wpAny_mono (turn n s hI) (fun b s₂ h₂ => ?_) fun _ _ x => x)
  cases b with
  | false => exact h₂.out
  | true => exact h₂

theorem forC {target iter : Expr} {body : List Stmt} {pos : Pos} {Q : Flow → Shared → Prop}
    (h : wpAny (model prog w) A (eval iter env) (fun x s₁ => wpAny (model prog w) A (pyIter x) (fun it s₂ => Hold (wpC (model prog w) A (runOwn (.forLoop target it body [] env) env) Q E s₂)) E s₁) E s)
    (hs : ∀ x, foldedSetIterable iter env x = pure x := by intro _; rfl) :
    wpC (model prog w) A (exec (.For target iter body [] pos) env) Q E s := by
  rw [exec_For]
  exact wpC_bindA (wpAny_standAt (wpC_bindA (wpAny_mono h (fun x s₁ h₁ => wpC_bindA (wpAny_of_eq (hs x) (wpC_bindA (wpAny_standAt (wpC_bindA (wpAny_holding
    (wpAny_mono h₁ (fun it s₂ h₂ => h₂.out) fun _ _ h' => h'))))))) fun _ _ h' => h')))

theorem loopC {target : Expr} {it : Value} {body : List Stmt} {Q : Flow → Shared → Prop} (I : Nat → Shared → Prop) (n : Nat) (h : I n s)
    (turn : ∀ n s, I n s → wpAny (model prog w) A (pyNext it) (fun r s₁ => match r with
      | none => Q .next s₁
      | some v => wpAny (model prog w) A (assign target env v) (fun _ s₂ => Hold (wpC (model prog w) A (execs body env) (fun f s₃ => match f with
          | .next => Back I n s₃
          | .cont => Back I n s₃
          | .brk => Q .next s₃
          | .ret v => Q (.ret v) s₃) noE s₂)) noE s₁) noE s)
    (ht : ∀ v, letOwnedTupleGo target it v = pure () := by intro _; rfl) : wpC (model prog w) A (runOwn (.forLoop target it body [] env) env) Q E s := by
  refine wpC_runOwn (codeC_loop rfl rfl I (fun n s hI => ?_) n h)
  show wpC _ A ((forTurn target it body [] env).onRaise (fun x => do noteFrame x env; theTreesLotGoes x)) _ _ s
  refine wpC_noted ?_
  simp only [forTurn]
  refine wpC_bindA (wpAny_standAt (wpC_bindA (wpAny_onRaise (wpAny_mono (turn n s hI) (fun r s₁ h₁ => ?_) fun _ _ h' => wpAny_standAt h'))))
  cases r with
  | none => exact wpC_pure (.inr ⟨rfl, codeC_of_any (codeAny_block (wpAny_execs_nil h₁))⟩)
  | some v =>
    refine wpC_bindA (wpAny_of_eq (ht v) ?_)
    refine wpC_bindA (wpAny_mono h₁ (fun _ s₂ h₂ => wpC_bind (wpC_mono h₂.out (fun f s₃ h₃ => ?_) fun _ _ h' => h')) fun _ _ h' => h')
    cases f with
    | next => exact wpC_pure (.inl ⟨rfl, h₃.out⟩)
    | cont => exact wpC_pure (.inl ⟨rfl, h₃.out⟩)
    | brk => exact wpC_pure h₃
    | ret v => exact wpC_pure h₃

theorem codeC_func {body : List Stmt} {R : Result → Shared → Prop}
    (h : wpC (model prog w) (A.deeper env) (execs body env) (fun f s' => R (.ok (.ret (match f with | .ret v => v | _ => .none))) s') noE s) :
    codeC (model prog w) A (.func body env) R s := by
  refine codeC_of_tree rfl ?_
  show wpC _ (A.deeper env) (do point; match ← (execs body env).onRaise (leaving env) with | .ret v => ret v | _ => ret .none) _ _ s
  refine wpC_bindA (wpAny_point (wpC_bind (wpC_onRaise (wpC_mono h (fun f s' h' => ?_) fun _ _ h' => h'.elim))))
  cases f <;> exact wpC_pure h'

theorem codeC_call_function {a : Addr} {args : Args} {o : Obj} {fd : FuncData} {body : List Stmt} {R : Result → Shared → Prop} (hroom : A.depth < recursionLimit)
    (ho : s.heap.get? a = some o)
    (hd' : o.data = .func fd) (hco : fd.scope.isCoroutine = false) (hgen : fd.scope.isGenerator = false) (hbody : fd.body = .stmts body) (hcd : s.heap.CodeRec fd.code fd.qualname)
    (h : wpAny (model prog w) A.in1 (bindArgs fd args) (fun binds s₁ =>
      wpAny (model prog w) A.in1 (newFunctionEnv fd.scope fd.globals fd.closure binds (fd.qualname ++ ".<locals>.") (some a) fd.code none fd.builtins)
        (fun env s₂ => s₂.heap.NoLimit ∧ codeC (model prog w) A (.func body env) R s₂) (fun e s' => R (.error e) s') s₁) (fun e s' => R (.error e) s') s) :
    codeC (model prog w) A (.call (.ref a) args) R s := by
  refine codeC_of_tree rfl ?_
  show wpC _ A.in1 (callAny (.ref a) args) _ _ s
  simp only [callAny]
  refine wpC_bindA (wpAny_load ho ?_)
  obtain ⟨c, oc, vs, tq, hc, hoc, hdc, hq⟩ := hcd
  simp only [hd', callFunction, hco, hgen, hbody, hc]
  rw [hc] at h
  refine wpC_bindA (m := field (.ref c) 1) (wpAny_field hoc hdc hq (wpC_bindA (wpAny_pure ?_)))
  exact wpC_bindA (wpAny_mono h (fun binds s₁ h₁ => wpC_bindA (wpAny_mono h₁ (fun env s₂ h₂ => wpC_bindA (wpAny_enterFrame h₂.1 hroom
    (wpC_pure (And.intro rfl h₂.2)))) fun _ _ h' => h')) fun _ _ h' => h')

theorem codeC_call_def {R : Result → Shared → Prop} {a : Addr} {o : Obj} {fd : FuncData} {body : List Stmt} {args : Args} {binds : List (Str × Value)}
    (hroom : A.depth < recursionLimit) (ho : s.heap.get? a = some o) (hdata : o.data = .func fd) (hlim : s.heap.NoLimit) (hcd : s.heap.CodeRec fd.code fd.qualname)
    (hbody : fd.body = .stmts body) (hbind : BindsTo s fd args binds)
    (hcell : ∀ x ∈ fd.scope.names, x.2 ≠ .cell) (hloc : ∀ x ∈ binds, fd.scope.names.lookup x.1 = some .local)
    (h : ∀ h₀, h₀.Ns s.heap.objs.size (fun x => binds.reverse.lookup x) → (∀ b o, s.heap.get? b = some o → h₀.get? b = some o) →
      wpC (model prog w) (A.deeper (callEnv fd s.heap.objs.size a)) (execs body (callEnv fd s.heap.objs.size a)) (fun f s' => R (.ok (.ret (match f with | .ret v => v | _ => .none))) s') noE
        { s with heap := h₀, toks := s.toks + binds.length })
    (hco : fd.scope.isCoroutine = false := by rfl) (hgen : fd.scope.isGenerator = false := by rfl) (hk : fd.scope.kind = .function := by rfl) :
    codeC (model prog w) A (.call (.ref a) args) R s := by
  refine codeC_call_function hroom ho hdata hco hgen hbody hcd (hbind _ _ _ _ ?_)
  refine wpAny_newFunctionEnv hcell hloc (fun h₀ hns₀ hsb₀ => ⟨hlim.fresh _ hsb₀, codeC_func (h h₀ hns₀ fun b o e => ?_)⟩) hk
  exact hsb₀.extBut b o (Nat.ne_of_lt (Heap.lt_size e)) (Heap.get?_push_of_some _ e)

/-- entering a def of the written part; what it may change is laid out as new -/
theorem callFC {Kf : Frag} {p : Program} {loose : List Str} {mean : ExcName → Option Value} {mg mb : Str → Option Value} {R : Result → Shared → Prop} {h₀ : Heap}
    {name qual : Str} {params : Arguments} {body : List Stmt} {scope : Scope} {dV pm cd doc : Value} {a : Addr} {o : Obj} {args : Args} {binds : List (Str × Value)}
    (mods : List (Addr × Obj)) (hst : h₀.StaysIn s.heap) (X : Kf.In h₀) (T : Top p loose mean mg mb h₀) (hm : ∀ p ∈ mods, s.heap.get? p.1 = some p.2 ∧ h₀.get? p.1 = none)
    (hroom : A.depth < recursionLimit) (ho : Kf.lookup a = some o) (hdata : o.data = .func (methDefD name qual params body scope pm cd doc dV)) (hcd : codeIn Kf cd qual = true)
    (hbind : BindsTo s (methDefD name qual params body scope pm cd doc dV) args binds) (hloc : ∀ x ∈ binds, scope.names.lookup x.1 = some .local)
    (h : ∀ g L h₁ tk, Fr g L h₁ (fun x => binds.reverse.lookup x) → News g L h₁ mods → Kf.In g → Top p loose mean mg mb g → h₀.StaysIn g →
      (∀ b o, s.heap.get? b = some o → b ∉ mods.map Prod.fst → g.get? b = some o) →
      wpC (model prog w) (A.deeper (envOf qual scope L a cd)) (execs body (envOf qual scope L a cd))
        (fun f s' => R (.ok (.ret (match f with | .ret v => v | _ => .none))) s') noE
        { s with heap := h₁, toks := tk })
    (hco : scope.isCoroutine = false := by rfl) (hgen : scope.isGenerator = false := by rfl) (hk : scope.kind = .function := by rfl) (hcell : ∀ x ∈ scope.names, x.2 ≠ .cell := by decide) :
    codeC (model prog w) A (.call (.ref a) args) R s := by
  refine codeC_call_def hroom (hst _ _ (X _ _ ho)) hdata (T.nolimit.keeps hst) (codeRec_of (X.keeps hst) hcd) rfl hbind hcell hloc (fun h₁ hns hkeep => ?_) hco hgen hk
  have F : Fr s.heap s.heap.objs.size h₁ (fun x => binds.reverse.lookup x) := ⟨hns, hkeep, Nat.le_refl _⟩
  have st : ∀ b o, h₀.get? b = some o → (hideAll s.heap (mods.map Prod.fst)).get? b = some o := fun b o e => hideAll_get _ (hst b o e) fun z => by
    obtain ⟨p, hp, rfl⟩ := List.mem_map.mp z
    rw [(hm p hp).2] at e; cases e
  refine h (hideAll s.heap (mods.map Prod.fst)) _ h₁ _ ⟨F.ns, fun b o e => F.keep b o (of_hideAll _ e), Nat.le_of_eq (hideAll_size _ _)⟩ (fun p hp => ⟨F.keep _ _ (hm p hp).1, Nat.ne_of_lt (Heap.lt_size (hm p hp).1), hideAll_none _ (List.mem_map_of_mem hp)⟩)
    (X.keeps st) (T.keeps st) st fun b o e n => hideAll_get _ e n

theorem codeC_call_cells {R : Result → Shared → Prop} {a : Addr} {o : Obj} {fd : FuncData} {body : List Stmt} {vals : List Value} {binds : List (Str × Value)}
    (hroom : A.depth < recursionLimit) (ho : s.heap.get? a = some o) (hdata : o.data = .func fd) (hlim : s.heap.NoLimit) (hcd : s.heap.CodeRec fd.code fd.qualname)
    (hbody : fd.body = .stmts body) (hbind : bindArgs fd ⟨vals, []⟩ = pure binds) (hclo : fd.closure = [])
    (hkind : ∀ x ∈ binds, fd.scope.names.lookup x.1 = some .local ∨ (fd.scope.names.lookup x.1 = some .cell ∧ ((cellsFrom (s.heap.objs.size + 1) fd.scope.names []).lookup x.1).isSome = true))
    (h : ∀ s₁, InCallC s (callEnvC fd s.heap.objs.size a).locals (bindL (callEnvC fd s.heap.objs.size a).kindOf binds fun _ => none) (callEnvC fd s.heap.objs.size a).cells
        (bindC (callEnvC fd s.heap.objs.size a).kindOf binds fun _ => none) s₁ →
      wpC (model prog w) (A.deeper (callEnvC fd s.heap.objs.size a)) (execs body (callEnvC fd s.heap.objs.size a)) (fun f s' => R (.ok (.ret (match f with | .ret v => v | _ => .none))) s') noE s₁)
    (hco : fd.scope.isCoroutine = false := by rfl) (hgen : fd.scope.isGenerator = false := by rfl) (hk : fd.scope.kind = .function := by rfl) :
    codeC (model prog w) A (.call (.ref a) ⟨vals, []⟩) R s := by
  refine codeC_call_function hroom ho hdata hco hgen hbody hcd ?_
  rw [hbind, hclo]
  refine wpAny_pure (wpAny_newFunctionEnv_cells hk hkind fun env he s' x => ?_)
  subst he
  exact ⟨hlim.keeps x.toInCall.keep, codeC_func (h s' x)⟩

theorem callC_cellsN {R : Result → Shared → Prop} {name : Str} {params : Arguments} {body : List Stmt} {scope : Scope}
    {pm cd doc : Value} {a : Addr} {o : Obj} {args : List Value} {binds : List (Str × Value)}
    (hroom : A.depth < recursionLimit) (ho : s.heap.get? a = some o) (hdata : o.data = .func (Calls.docDef name params body scope pm cd doc)) (hlim : s.heap.NoLimit) (hcd : s.heap.CodeRec cd name)
    (hbind : bindArgs (Calls.docDef name params body scope pm cd doc) ⟨args, []⟩ = pure binds)
    (hkind : ∀ x ∈ binds, scope.names.lookup x.1 = some .local ∨ (scope.names.lookup x.1 = some .cell ∧ ((cellsFrom (s.heap.objs.size + 1) scope.names []).lookup x.1).isSome = true))
    (hnd : ((cellsFrom 0 scope.names []).map (·.1)).Nodup)
    (h : ∀ h₁ tk cells, Fr s.heap s.heap.objs.size h₁ (bindL (envOfC name scope s.heap.objs.size a cd).kindOf binds fun _ => none) → News s.heap s.heap.objs.size h₁ cells →
      CellsAre (bindC (envOfC name scope s.heap.objs.size a cd).kindOf binds fun _ => none) (cellsFrom (s.heap.objs.size + 1) scope.names []) cells →
      wpC (model prog w) (A.deeper (envOfC name scope s.heap.objs.size a cd)) (execs body (envOfC name scope s.heap.objs.size a cd))
        (fun f s' => R (.ok (.ret (match f with | .ret v => v | _ => .none))) s') noE { s with heap := h₁, toks := tk })
    (hco : scope.isCoroutine = false := by rfl) (hgen : scope.isGenerator = false := by rfl) (hk : scope.kind = .function := by rfl) :
    codeC (model prog w) A (.call (.ref a) ⟨args, []⟩) R s := by
  refine codeC_call_cells (fd := Calls.docDef name params body scope pm cd doc) hroom ho hdata hlim hcd rfl hbind rfl hkind (fun s₁ X => ?_) hco hgen hk
  obtain ⟨h₁, tk, rfl, _⟩ := X.done
  have F : Fr s.heap s.heap.objs.size h₁ (bindL (envOfC name scope s.heap.objs.size a cd).kindOf binds fun _ => none) := ⟨X.toInCall.ns, X.toInCall.keep, X.toInCall.fresh⟩
  have C : Cl s.heap.objs.size (cellsFrom (s.heap.objs.size + 1) scope.names []) h₁ (bindC (envOfC name scope s.heap.objs.size a cd).kindOf binds fun _ => none) := ⟨X.cell, X.apart, X.above⟩
  obtain ⟨cells, N, Y⟩ := Cl.news (h₀ := s.heap) (Nat.le_refl _) fun n c hm => ⟨C.cell n c (lookup_of_mem_nodup (cellsFrom_names scope.names 0 (s.heap.objs.size + 1) [] [] rfl ▸ hnd) hm), C.above n c hm⟩
  exact h h₁ tk cells F N Y

theorem bindArg2 {x : Str} {px p pos pos' : Pos} {f : Str} {e₁ e₂ : Expr} {rest : List Stmt} {a : Addr} {Q : Flow → Shared → Prop}
    (h : wpAny (model prog w) A (eval (.Name f p) env) (fun fv s₁ => Hold (fv = .ref a ∧ wpAny (model prog w) A (eval e₁ env) (fun v₁ s₂ => wpAny (model prog w) A (eval e₂ env) (fun v₂ s₃ =>
      Hold ((∃ o fd, s₃.heap.get? a = some o ∧ o.data = .func fd) ∧ wpC (model prog w) A (call (.ref a) [v₁, v₂]) (fun r s₄ => wpAny (model prog w) A (storeName env x r) (fun _ s₅ => Hold (wpC (model prog w) A (execs rest env) Q E s₅)) E s₄) E s₃)) E s₂) E s₁)) E s)
    (hs : starEach [e₁, e₂] env = [(false, eval e₁ env), (false, eval e₂ env)] := by rfl)
    (hsw : swapsWith (.Call (.Name f p) [e₁, e₂] [] pos) (some (.Name x px)) pos'.line env = pure false := by rfl) :
    wpC (model prog w) A (execs (.Assign [.Name x px] (.Call (.Name f p) [e₁, e₂] [] pos) pos' :: rest) env) Q E s := by
  refine wpC_execs_cons ?_
  rw [exec_Assign_Name env x px _ pos' hsw]
  refine wpC_bindA (wpAny_standAt (wpC_bind ?_))
  rw [arm_eval_Call_Name']
  refine wpC_bindA (wpAny_mono h (fun fv s₁ h₁ => ?_) fun _ _ x => x)
  obtain ⟨rfl, he⟩ := h₁.out
  rw [hs]
  unfold callWith
  refine wpC_bindA (wpAny_holding (Calls.evalArgs_plain (Calls.spliced_cons (wpAny_mono he (fun v₁ s₂ h₂ => Calls.spliced_cons (wpAny_mono h₂ (fun v₂ s₃ h₃ => Calls.spliced_nil ?_) fun _ _ x => x)) fun _ _ x => x))))
  obtain ⟨⟨o, fd, ho, hd⟩, hc⟩ := h₃.out
  refine wpC_bindA (wpAny_standAt ?_)
  refine wpC_bindA (m := keeperOf (.ref a)) ?_
  unfold keeperOf
  refine wpAny_bind (wpAny_load ho ?_)
  rw [hd]
  refine wpAny_pure ?_
  have tail : ∀ {t : Sem Value}, wpC (model prog w) A t (fun r s₄ => wpAny (model prog w) A (storeName env x r) (fun _ s₅ => Hold (wpC (model prog w) A (execs rest env) Q E s₅)) E s₄) E s₃ →
      wpC (model prog w) A (t >>= fun r => holding [r] point >>= fun _ => pure r) (fun v s' => wpC (model prog w) A (standAt px >>= fun _ => bindName env x v >>= fun _ => pure Flow.next) (fun f s' => match f with | .next => wpC (model prog w) A (execs rest env) Q E s' | f => Q f s') E s') E s₃ :=
    fun ht => wpC_bind (wpC_mono ht (fun r s₂ hr => wpC_bindA (wpAny_holding (wpAny_point (wpC_pure (wpC_bindA (wpAny_standAt (wpC_bindA (wpAny_bindName (wpAny_mono hr (fun _ s₅ h₅ => wpC_pure h₅.out) fun _ _ x => x))))))))) fun _ _ x => x)
  exact tail (by unfold callMarked; exact wpC_keep hc)

theorem bindType1 {x : Str} {px p pos pos' : Pos} {f : Str} {T : String} {e : Expr} {rest : List Stmt} {Q : Flow → Shared → Prop}
    (h : wpAny (model prog w) A (eval (.Name f p) env) (fun fv s₁ => Hold (fv = .type T ∧ wpAny (model prog w) A (eval e env) (fun v s₃ =>
      Hold (wpC (model prog w) A (call (.type T) [v]) (fun r s₄ => wpAny (model prog w) A (storeName env x r) (fun _ s₅ => Hold (wpC (model prog w) A (execs rest env) Q E s₅)) E s₄) E s₃)) E s₁)) E s)
    (hs : starEach [e] env = [(false, eval e env)] := by rfl)
    (hsw : swapsWith (.Call (.Name f p) [e] [] pos) (some (.Name x px)) pos'.line env = pure false := by rfl) :
    wpC (model prog w) A (execs (.Assign [.Name x px] (.Call (.Name f p) [e] [] pos) pos' :: rest) env) Q E s := by
  refine wpC_execs_cons ?_
  rw [exec_Assign_Name env x px _ pos' hsw]
  refine wpC_bindA (wpAny_standAt (wpC_bind ?_))
  rw [arm_eval_Call_Name']
  refine wpC_bindA (wpAny_mono h (fun fv s₁ h₁ => ?_) fun _ _ x => x)
  obtain ⟨rfl, he⟩ := h₁.out
  rw [hs]
  unfold callWith
  refine wpC_bindA (wpAny_holding (Calls.evalArgs_plain (Calls.spliced_cons (wpAny_mono he (fun v₁ s₂ h₂ => Calls.spliced_nil ?_) fun _ _ x => x))))
  refine wpC_bindA (wpAny_standAt ?_)
  refine wpC_bindA (wpAny_pure ?_)
  refine wpC_bind (wpC_mono h₂.out (fun r s₂ hr => wpC_bindA (wpAny_holding (wpAny_point (wpC_pure (wpC_bindA (wpAny_standAt (wpC_bindA (wpAny_bindName (wpAny_mono hr (fun _ s₅ h₅ => wpC_pure h₅.out) fun _ _ x => x))))))))) fun _ _ x => x)
end
end Vi
namespace Vi
open PySem PySem.W PySem.Calls PyProof.Rows
local macro_rules | `(tactic| walk_at "mine pad E1 2") => `(tactic| skip)
local macro_rules | `(tactic| walk_at "mine pad E1 1") => `(tactic| skip)
local macro_rules | `(tactic| walk_at "mine pad E1 0") => `(tactic| skip)
open Mine (wpC codeC wpC_of_any codeC_of_any wpC_pure wpC_mono wpC_bind wpC_bindA)
theorem fillE : PySem.Challenge.rw_je0012_01 = PySem.Challenge.rw_je0012_01 ∧ Mine.hd.heap_39 = Mine.hd.heap_39 := by w_top off; k_fill; exact ⟨rfl, rfl⟩

theorem octs_len_ge : ∀ (k n : Nat), 128 ^ k ≤ n ∨ k = 0 → k + 1 ≤ (octs n).length
  | 0, n, _ => octs_len_pos n
  | k + 1, n, h => by
    have h := h.resolve_right (by omega)
    have hp : 0 < 128 ^ k := Nat.pow_pos (by decide)
    have e1 : 128 ^ (k + 1) = 128 ^ k * 128 := Nat.pow_succ ..
    have hb : ¬ n < 128 := by omega
    rw [octs_big hb, List.length_cons]
    have := octs_len_ge k (n / 128) (.inl (by omega))
    omega
theorem arr_push (c : Array UInt8) (x : UInt8) (l : List UInt8) : c.push x ++ l.toArray = c ++ (x :: l).toArray := by apply Array.ext'; simp
theorem bys_big {m : Nat} {c B : Array UInt8} (h : ¬ m < 128) (e : c ++ bys m = B) : c.push (UInt8.ofNat (128 + m % 128)) ++ bys (m / 128) = B := by
  rw [← e]
  unfold bys
  rw [octs_big h, List.map_cons]
  exact arr_push _ _ _
theorem bys_last {m : Nat} {c B : Array UInt8} (h : m < 128) (e : c ++ bys m = B) : c.push (UInt8.ofNat m) = B := by
  rw [← e]
  unfold bys
  rw [octs_small h]
  rfl
theorem cap_of {m n : Nat} {c b : Array UInt8} (e : c ++ bys m = b ++ bys n) (hb : b.size ≤ 500) (hn : n < 2 ^ 64) : c.size + 1 ≤ sizeLine := by
  have h1 := congrArg Array.size e
  rw [Array.size_append, Array.size_append, bys_size, bys_size] at h1
  have h2 := octs_len_le 9 n (by omega)
  rw [sizeLine_eq]; omega
theorem fr_tok {g h : Heap} {L : Addr} {x : Str} {z : Int} {t : Tok} {m : Str → Option Value} (F : Fr g L h (fun y => if y = x then some (.int z t) else m y)) : ∃ t', Fr g L h (fun y => if y = x then some (.int z t') else m y) := ⟨t, F⟩
theorem fd7 (n : Nat) : (n : Int).fdiv (2 ^ Int.toNat 7) = ((n / 128 : Nat) : Int) := by
  rw [show ((2 : Int) ^ Int.toNat 7) = 128 by decide, Int.fdiv_eq_ediv_of_nonneg _ (by decide)]; omega
theorem fd14 (n : Nat) : (n : Int).fdiv (2 ^ Int.toNat 14) = ((n / 128 / 128 : Nat) : Int) := by
  rw [show ((2 : Int) ^ Int.toNat 14) = 16384 by decide, Int.fdiv_eq_ediv_of_nonneg _ (by decide)]; omega
theorem fd21 (n : Nat) : (n : Int).fdiv (2 ^ Int.toNat 21) = ((n / 128 / 128 / 128 : Nat) : Int) := by
  rw [show ((2 : Int) ^ Int.toNat 21) = 2097152 by decide, Int.fdiv_eq_ediv_of_nonneg _ (by decide)]; omega
theorem fd28 (n : Nat) : (n : Int).fdiv (2 ^ Int.toNat 28) = ((n / 128 / 128 / 128 / 128 : Nat) : Int) := by
  rw [show ((2 : Int) ^ Int.toNat 28) = 268435456 by decide, Int.fdiv_eq_ediv_of_nonneg _ (by decide)]; omega
theorem or128s : ∀ x : Nat, x < 128 → Builtin.bitOr 128 (x : Int) = ((128 + x : Nat) : Int) := by decide +kernel
theorem and127 (n : Nat) : Builtin.bitAnd (n : Int) 127 = ((n % 128 : Nat) : Int) := by rw [bitAnd_m7]; omega
theorem or128 (n : Nat) : Builtin.bitOr 128 (Builtin.bitAnd (n : Int) 127) = ((128 + n % 128 : Nat) : Int) := by
  rw [and127]; exact or128s _ (by omega)

section
variable {prog : Program} {w : World} {A : Around} {E : Value → Shared → Prop} {s : Shared} {env : Env}
theorem app_go {g : Heap} {L a : Addr} {m : Str → Option Value} {b : Array UInt8} {z : Int} {t : Tok} {k : Nat} {rest : List Stmt} {Q : Flow → Shared → Prop} (s₀ : Shared) (F : Fr g L s.heap m) (N : News g L s.heap [(a, ba b)]) (hz : z = (k : Int)) (hk : k < 256)
    (hs : ∀ h', { s with heap := h' } = { s₀ with heap := h', toks := s.toks })
    (h : ∀ h' tk, Fr g L h' m → News g L h' [(a, ba (b.push (UInt8.ofNat k)))] → wpC (model prog w) A (execs rest env) Q E { s₀ with heap := h', toks := tk }) :
    Hold (∃ (k : Nat) (t' : Tok), Value.int z t = .int k t' ∧ k < 256 ∧ s.heap.get? a = some (ba b) ∧
        ∀ h', Chg [a] s.heap h' → h'.get? a = some (ba (b.push (UInt8.ofNat k))) → wpC (model prog w) A (execs rest env) Q E { s with heap := h' }) := by
  subst hz
  have z := N _ (.head _)
  refine ⟨⟨k, t, rfl, hk, z.1, fun h' c1 c2 => hs h' ▸ h h' _ (fr_chg F (fun a' ha => ?_) c1) (news_upd' N c1 c2 (.head (by simp)))⟩⟩
  rcases List.mem_singleton.mp ha with rfl
  exact ⟨z.2.2, z.2.1⟩
end
def encI (s : Shared) (g : Heap) (L a : Addr) (b : Array UInt8) (n : Nat) (m0 : Str → Option Value) (m : Nat) (s' : Shared) : Prop :=
  ∃ h' tk c i t1 t2 t3, s' = { s with heap := h', toks := tk } ∧ Fr g L h' (fun y => if y = Str.ofString "i" then some (.int i t3) else if y = Str.ofString "value" then some (.int ((m / 128 : Nat) : Int) t1) else if y = Str.ofString "bits" then some (.int ((m % 128 : Nat) : Int) t2) else m0 y) ∧
    News g L h' [(a, ba c)] ∧ c ++ bys m = b ++ bys n ∧ m ≤ n
theorem enc_init {s : Shared} {g h1 : Heap} {L a : Addr} {b : Array UInt8} {n tk : Nat} {x y i : Int} {t1 t2 t3 : Tok} {u : Option Value} {m0 : Str → Option Value} (hx : x = ((n / 128 : Nat) : Int)) (hy : y = ((n % 128 : Nat) : Int))
    (F : Fr g L h1 (fun z => if z = Str.ofString "i" then some (.int i t3) else if z = Str.ofString "value" then some (.int x t1) else if z = Str.ofString "bits" then some (.int y t2) else if z = Str.ofString "value" then u else m0 z)) (N : News g L h1 [(a, ba b)]) :
    encI s g L a b n m0 n { s with heap := h1, toks := tk } := by
  subst hx hy
  refine ⟨h1, tk, b, i, t1, t2, t3, rfl, fr_same F fun z => ?_, N, rfl, Nat.le_refl _⟩
  by_cases e1 : z = Str.ofString "i"
  · rw [if_pos e1, if_pos e1]
  rw [if_neg e1, if_neg e1]
  by_cases e2 : z = Str.ofString "value"
  · rw [if_pos e2, if_pos e2]
  rw [if_neg e2, if_neg e2, if_neg e2]
theorem enc_step {s : Shared} {g h1 : Heap} {L a : Addr} {b c : Array UInt8} {n m tk : Nat} {x y i : Int} {t1 t2 t3 : Tok} {u1 u2 u3 : Option Value} {m0 : Str → Option Value} (hx : x = ((m / 128 / 128 : Nat) : Int)) (hy : y = ((m / 128 % 128 : Nat) : Int)) (hm : m / 128 < m ∧ m ≤ n) (hc : c ++ bys (m / 128) = b ++ bys n)
    (F : Fr g L h1 (fun z => if z = Str.ofString "i" then some (.int i t3) else if z = Str.ofString "value" then some (.int x t1) else if z = Str.ofString "bits" then some (.int y t2) else if z = Str.ofString "i" then u1 else if z = Str.ofString "value" then u2 else if z = Str.ofString "bits" then u3 else m0 z)) (N : News g L h1 [(a, ba c)]) :
    Back (encI s g L a b n m0) m { s with heap := h1, toks := tk } := by
  subst hx hy
  refine ⟨⟨m / 128, hm.1, h1, tk, c, i, t1, t2, t3, rfl, fr_same F fun z => ?_, N, hc, by omega⟩⟩
  by_cases e1 : z = Str.ofString "i"
  · rw [if_pos e1, if_pos e1]
  rw [if_neg e1, if_neg e1]
  by_cases e2 : z = Str.ofString "value"
  · rw [if_pos e2, if_pos e2]
  rw [if_neg e2, if_neg e2]
  by_cases e3 : z = Str.ofString "bits"
  · rw [if_pos e3, if_pos e3]
  rw [if_neg e3, if_neg e3, if_neg e1, if_neg e2, if_neg e3]
set_option maxHeartbeats 4000000 in
theorem encode_spec {w : World} {A : Around} {s : Shared} {h₀ : Heap} {mg mb : Str → Option Value} {mean : ExcName → Option Value} {R : Result → Shared → Prop} 
    {v : Int} {t : Tok} {a : Addr} {b : Array UInt8} (hA : A.handled = none) (hd : A.depth < 700) (hu : A.units < 5000)
    (hst : h₀.StaysIn s.heap) (X : (Mine.hd.heap_39 w.params).In h₀) (T : Top q lse mean mg mb h₀)
    (ha : s.heap.get? a = some (ba b) ∧ h₀.get? a = none) (hb : b.size ≤ 500)
    (hv1 : -(2 ^ 63) ≤ v) (hv2 : v < 2 ^ 63)
    (h : ∀ h' tk tv x, ((octs (zz v)).length < 6 → x = ((octs (zz v)).length : Int)) → Chg [a] s.heap h' → h'.get? a = some (ba (b ++ bys (zz v))) → R (.ok (.ret (.int x tv))) { s with heap := h', toks := tk }) :
    codeC (model pw w) A (.call (.ref 21) ⟨[.int v t, .ref a], []⟩) R s := by
  obtain ⟨_, dep, fr, gs, un⟩ := A
  dsimp only at hA hd hu
  subst hA
  refine callFC (Kf := Mine.hd.heap_39 w.params) (name := "encode_varint") (qual := "encode_varint") (dV := .none) (binds := [("value", .int v t), ("write", .ref a)]) [(a, ba b)] hst X T (fun p hp => by rcases List.mem_singleton.mp hp with rfl; exact ha) (by show dep < 1000; omega) rfl rfl (by rfl) (.of_eq rfl) (locs rfl) ?_
  intro g L h' tk F' N' X' T' st kg
  have hz := zig_eq hv1 hv2
  have hz2 := zz_lt hv1 hv2
  refine stA ?_
  k_steps
  (with_reducible rename Fr _ _ _ _ => kF)
  rw [hz] at kF
  generalize zz v = n at *
  clear hz
  obtain ⟨t1, kF⟩ := fr_tok kF
  (with_reducible rename News _ _ _ _ => kN)
  have hc0 : b ++ bys n = b ++ bys n := rfl
  have fin : ∀ {h2 : Heap} {tk2 : Nat} {tv : Tok} {x : Int} {m2 : Str → Option Value} {c : Array UInt8}, Fr g L h2 m2 → News g L h2 [(a, ba c)] → c = b ++ bys n → ((octs n).length < 6 → x = ((octs n).length : Int)) → R (.ok (.ret (.int x tv))) { s with heap := h2, toks := tk2 } := fun F N e hx => h _ _ _ _ hx (fun b o e n => F.keep _ _ (kg _ _ e (by simpa using n))) (e ▸ (N _ (.head _)).1)
  refine ⟨wpC_execs_cons (ifC ?_)⟩
  k_steps
  · refine ⟨appC (a := a) (b := b) ?_⟩
    k_steps
    refine ⟨rfl, (kN _ (.head _)).1, cap_of hc0 hb hz2, ?_⟩
    k_steps
    refine app_go s kF kN rfl (by omega) (fun _ => rfl) (fun h2 tk2 kF kN => ?_)
    have hl := octs_len 0 n (by omega) (.inl rfl)
    refine stA ?_
    k_steps
    exact fin kF kN (bys_last (by omega) hc0) (fun _ => by omega)
  refine ⟨wpC_of_any (wpAny_execs_nil (wpC_execs_cons (ifC ?_)))⟩
  k_steps
  · refine ⟨appC (a := a) (b := b) ?_⟩
    k_steps
    refine ⟨rfl, (kN _ (.head _)).1, cap_of hc0 hb hz2, ?_⟩
    k_steps
    refine app_go s kF kN (or128 n) (by omega) (fun _ => rfl) (fun h2 tk2 kF kN => ?_)
    have hc1 := bys_big (by omega) hc0
    refine appC (a := a) (b := (b.push (UInt8.ofNat (128 + n % 128)))) ?_
    k_steps
    refine ⟨rfl, (kN _ (.head _)).1, cap_of hc1 hb hz2, ?_⟩
    k_steps
    refine app_go s kF kN (fd7 n) (by omega) (fun _ => rfl) (fun h2 tk2 kF kN => ?_)
    have hl := octs_len 1 n (by omega) (.inr (by omega))
    refine stA ?_
    k_steps
    exact fin kF kN (bys_last (by omega) hc1) (fun _ => by omega)
  refine ⟨wpC_of_any (wpAny_execs_nil (wpC_execs_cons (ifC ?_)))⟩
  k_steps
  · refine ⟨appC (a := a) (b := b) ?_⟩
    k_steps
    refine ⟨rfl, (kN _ (.head _)).1, cap_of hc0 hb hz2, ?_⟩
    k_steps
    refine app_go s kF kN (or128 n) (by omega) (fun _ => rfl) (fun h2 tk2 kF kN => ?_)
    have hc1 := bys_big (by omega) hc0
    refine appC (a := a) (b := (b.push (UInt8.ofNat (128 + n % 128)))) ?_
    k_steps
    refine ⟨rfl, (kN _ (.head _)).1, cap_of hc1 hb hz2, ?_⟩
    k_steps
    refine app_go s kF kN (by rw [fd7]; exact or128 _) (by omega) (fun _ => rfl) (fun h2 tk2 kF kN => ?_)
    have hc2 := bys_big (by omega) hc1
    refine appC (a := a) (b := ((b.push (UInt8.ofNat (128 + n % 128))).push (UInt8.ofNat (128 + (n / 128) % 128)))) ?_
    k_steps
    refine ⟨rfl, (kN _ (.head _)).1, cap_of hc2 hb hz2, ?_⟩
    k_steps
    refine app_go s kF kN (fd14 n) (by omega) (fun _ => rfl) (fun h2 tk2 kF kN => ?_)
    have hl := octs_len 2 n (by omega) (.inr (by omega))
    refine stA ?_
    k_steps
    exact fin kF kN (bys_last (by omega) hc2) (fun _ => by omega)
  refine ⟨wpC_of_any (wpAny_execs_nil (wpC_execs_cons (ifC ?_)))⟩
  k_steps
  · refine ⟨appC (a := a) (b := b) ?_⟩
    k_steps
    refine ⟨rfl, (kN _ (.head _)).1, cap_of hc0 hb hz2, ?_⟩
    k_steps
    refine app_go s kF kN (or128 n) (by omega) (fun _ => rfl) (fun h2 tk2 kF kN => ?_)
    have hc1 := bys_big (by omega) hc0
    refine appC (a := a) (b := (b.push (UInt8.ofNat (128 + n % 128)))) ?_
    k_steps
    refine ⟨rfl, (kN _ (.head _)).1, cap_of hc1 hb hz2, ?_⟩
    k_steps
    refine app_go s kF kN (by rw [fd7]; exact or128 _) (by omega) (fun _ => rfl) (fun h2 tk2 kF kN => ?_)
    have hc2 := bys_big (by omega) hc1
    refine appC (a := a) (b := ((b.push (UInt8.ofNat (128 + n % 128))).push (UInt8.ofNat (128 + (n / 128) % 128)))) ?_
    k_steps
    refine ⟨rfl, (kN _ (.head _)).1, cap_of hc2 hb hz2, ?_⟩
    k_steps
    refine app_go s kF kN (by rw [fd14]; exact or128 _) (by omega) (fun _ => rfl) (fun h2 tk2 kF kN => ?_)
    have hc3 := bys_big (by omega) hc2
    refine appC (a := a) (b := (((b.push (UInt8.ofNat (128 + n % 128))).push (UInt8.ofNat (128 + (n / 128) % 128))).push (UInt8.ofNat (128 + ((n / 128) / 128) % 128)))) ?_
    k_steps
    refine ⟨rfl, (kN _ (.head _)).1, cap_of hc3 hb hz2, ?_⟩
    k_steps
    refine app_go s kF kN (fd21 n) (by omega) (fun _ => rfl) (fun h2 tk2 kF kN => ?_)
    have hl := octs_len 3 n (by omega) (.inr (by omega))
    refine stA ?_
    k_steps
    exact fin kF kN (bys_last (by omega) hc3) (fun _ => by omega)
  refine ⟨wpC_of_any (wpAny_execs_nil (wpC_execs_cons (ifC ?_)))⟩
  k_steps
  · refine ⟨appC (a := a) (b := b) ?_⟩
    k_steps
    refine ⟨rfl, (kN _ (.head _)).1, cap_of hc0 hb hz2, ?_⟩
    k_steps
    refine app_go s kF kN (or128 n) (by omega) (fun _ => rfl) (fun h2 tk2 kF kN => ?_)
    have hc1 := bys_big (by omega) hc0
    refine appC (a := a) (b := (b.push (UInt8.ofNat (128 + n % 128)))) ?_
    k_steps
    refine ⟨rfl, (kN _ (.head _)).1, cap_of hc1 hb hz2, ?_⟩
    k_steps
    refine app_go s kF kN (by rw [fd7]; exact or128 _) (by omega) (fun _ => rfl) (fun h2 tk2 kF kN => ?_)
    have hc2 := bys_big (by omega) hc1
    refine appC (a := a) (b := ((b.push (UInt8.ofNat (128 + n % 128))).push (UInt8.ofNat (128 + (n / 128) % 128)))) ?_
    k_steps
    refine ⟨rfl, (kN _ (.head _)).1, cap_of hc2 hb hz2, ?_⟩
    k_steps
    refine app_go s kF kN (by rw [fd14]; exact or128 _) (by omega) (fun _ => rfl) (fun h2 tk2 kF kN => ?_)
    have hc3 := bys_big (by omega) hc2
    refine appC (a := a) (b := (((b.push (UInt8.ofNat (128 + n % 128))).push (UInt8.ofNat (128 + (n / 128) % 128))).push (UInt8.ofNat (128 + ((n / 128) / 128) % 128)))) ?_
    k_steps
    refine ⟨rfl, (kN _ (.head _)).1, cap_of hc3 hb hz2, ?_⟩
    k_steps
    refine app_go s kF kN (by rw [fd21]; exact or128 _) (by omega) (fun _ => rfl) (fun h2 tk2 kF kN => ?_)
    have hc4 := bys_big (by omega) hc3
    refine appC (a := a) (b := ((((b.push (UInt8.ofNat (128 + n % 128))).push (UInt8.ofNat (128 + (n / 128) % 128))).push (UInt8.ofNat (128 + ((n / 128) / 128) % 128))).push (UInt8.ofNat (128 + (((n / 128) / 128) / 128) % 128)))) ?_
    k_steps
    refine ⟨rfl, (kN _ (.head _)).1, cap_of hc4 hb hz2, ?_⟩
    k_steps
    refine app_go s kF kN (fd28 n) (by omega) (fun _ => rfl) (fun h2 tk2 kF kN => ?_)
    have hl := octs_len 4 n (by omega) (.inr (by omega))
    refine stA ?_
    k_steps
    exact fin kF kN (bys_last (by omega) hc4) (fun _ => by omega)
  refine ⟨stA ?_⟩
  k_steps
  refine ⟨stA ?_⟩
  k_steps
  refine ⟨stA ?_⟩
  k_steps
  (with_reducible rename Fr _ _ _ _ => kF; with_reducible rename News _ _ _ _ => kN)
  refine ⟨whileS (encI s g L a b n (fun y => [(Str.ofString "value", Value.int v t), (Str.ofString "write", Value.ref a)].reverse.lookup y)) n (enc_init (fd7 n) (and127 n) kF kN) (fun m s' hI => ?_)⟩
  obtain ⟨h1, tk1, c, i, t1, t2, t3, rfl, kF, kN, hc, hm⟩ := hI
  k_steps
  · refine ⟨appC (a := a) (b := c) ?_⟩
    k_steps
    refine ⟨rfl, (kN _ (.head _)).1, cap_of hc hb hz2, ?_⟩
    k_steps
    refine app_go s kF kN (or128s _ (by omega)) (by omega) (fun _ => rfl) (fun h2 tk2 kF kN => ?_)
    refine stA ?_
    k_steps
    refine ⟨stA ?_⟩
    k_steps
    refine ⟨stA ?_⟩
    k_steps
    (with_reducible rename Fr _ _ _ _ => kF; with_reducible rename News _ _ _ _ => kN)
    refine ⟨wpC_of_any (wpAny_execs_nil ?_)⟩
    exact enc_step (fd7 _) (and127 _) (by omega) (bys_big (by omega) hc) kF kN
  · refine ⟨wpC_of_any (wpAny_execs_nil ?_)⟩
    show wpC (model pw w) _ _ _ _ _
    refine appC (a := a) (b := c) ?_
    k_steps
    refine ⟨rfl, (kN _ (.head _)).1, cap_of hc hb hz2, ?_⟩
    k_steps
    have hm1 : m < 128 := by omega
    refine app_go (k := m) s kF kN (by omega) (by omega) (fun _ => rfl) (fun h2 tk2 kF kN => ?_)
    have hl := octs_len_ge 5 n (.inl (by omega))
    refine stA ?_
    k_steps
    exact fin kF kN (bys_last hm1 hc) (fun _ => by omega)
end Vi
namespace Vi
open PySem PySem.W PySem.Calls PyProof.Rows
open Mine (wpC codeC wpC_of_any codeC_of_any wpC_pure wpC_mono wpC_bind wpC_bindA wpC_call)

section
variable {w : World} {A : Around} {s : Shared} {g : Heap} {L : Addr} {m : Str → Option Value} {mg mb : Str → Option Value} {mean : ExcName → Option Value} {E : Value → Shared → Prop} {Q : Value → Shared → Prop} {news : List (Addr × Obj)}

theorem fr_nil {h h' : Heap} (F : Fr g L h m) (c : Chg [] h h') : Fr g L h' m := fr_chg (as := []) F (fun _ ha => absurd ha List.not_mem_nil) c
theorem news_nil {h h' : Heap} (N : News g L h news) (c : Chg [] h h') : News g L h' news := news_chg N c (fun _ _ => List.not_mem_nil)
theorem new_of {h h' : Heap} {a : Addr} {o : Obj} (F : Fr g L h m) (N : News g L h news) (c : Chg [] h h') (hf : h.get? a = none) (ho : h'.get? a = some o) : News g L h' ((a, o) :: news) ∧ (∀ p ∈ news, p.1 ≠ a) := by
  refine ⟨fun p hp => ?_, fun p hp e => ?_⟩
  · rcases List.mem_cons.mp hp with rfl | hp
    · refine ⟨ho, fun e => ?_, ?_⟩
      · obtain ⟨oL, _, _, hL, _⟩ := F.ns
        rw [← e] at hL
        rw [hf] at hL; cases hL
      · cases q : g.get? a with
        | none => rfl
        | some o' => have := F.keep _ _ q; rw [hf] at this; cases this
    · exact news_nil N c p hp
  · have := (N p hp).1
    rw [e, hf] at this; cases this

theorem number_call {hand scr : Addr} {vs : List Value} {ns : List Int} {k : Int} {t₁ : Tok} {n : Nat}
    (hA : A.handled = none) (hd : A.depth < 600) (hu : A.units < 4000) (F : Fr g L s.heap m) (N : News g L s.heap news) (X : (Mine.hd.heap_39 w.params).In g) (T : Top q lse mean mg mb g)
    (hs : g.IsList scr vs.toArray) (hi : IntsAre vs ns) (hlen : ns.length ≤ 63) (hm : (hand, lst [.ref scr, .int k t₁] n) ∈ news)
    (hk0 : 0 ≤ k) (hk1 : k < 900)
    (h : ∀ h' tk t₂ tv x k', Fr g L h' m → (∀ news', Upd hand (lst [.ref scr, .int k t₁] n) (lst [.ref scr, .int k' t₂] n) news news' → News g L h' news') → k' = k + 5 → -(2 ^ 63) ≤ x → x < 2 ^ 63 →
      Q (.int x tv) { s with heap := h', toks := tk }) :
    wpAny (model pw w) A (call (.ref 57) [.ref hand]) Q E s := by
  refine wpAny_call (number_spec hA hd hu F.keep X T ⟨(N _ hm).1, (N _ hm).2.2⟩ hs hi hlen hk0 hk1 fun h' tk t₂ tv x k' h1 h2 hk hc hg => ?_)
  refine h h' tk t₂ tv x k' (fr_chg F (fun a ha => ?_) hc) (fun news' U => news_upd' N hc hg U) hk h1 h2
  rcases List.mem_singleton.mp ha with rfl
  exact ⟨(N _ hm).2.2, (N _ hm).2.1⟩
theorem octets_call {v : Int} {t : Tok} (hA : A.handled = none) (hd : A.depth < 700) (hu : A.units < 5000) (F : Fr g L s.heap m) (N : News g L s.heap news) (X : (Mine.hd.heap_39 w.params).In g) (T : Top q lse mean mg mb g)
    (hv1 : -(2 ^ 63) ≤ v) (hv2 : v < 2 ^ 63)
    (h : ∀ h' tk tv x, Fr g L h' m → News g L h' news → x = bys (zz v) → Q (.bytes x tv) { s with heap := h', toks := tk }) :
    wpAny (model pw w) A (call (.ref 50) [.int v t]) Q E s :=
  wpAny_call (octets_spec hA hd hu F.keep X T hv1 hv2 fun h' tk tv x hx hc => h h' tk tv x (fr_nil F hc) (news_nil N hc) hx)
theorem size_call {v : Int} {t : Tok} (hA : A.handled = none) (hd : A.depth < 700) (hu : A.units < 5000) (F : Fr g L s.heap m) (N : News g L s.heap news) (X : (Mine.hd.heap_39 w.params).In g) (T : Top q lse mean mg mb g)
    (hv1 : -(2 ^ 63) ≤ v) (hv2 : v < 2 ^ 63)
    (h : ∀ h' tk tv x, Fr g L h' m → News g L h' news → x = ((octs (zz v)).length : Int) → Q (.int x tv) { s with heap := h', toks := tk }) :
    wpAny (model pw w) A (call (.ref 28) [.int v t]) Q E s :=
  wpAny_call (size_spec hA hd hu F.keep X T hv1 hv2 fun h' tk tv x hx hc => h h' tk tv x (fr_nil F hc) (news_nil N hc) hx)

theorem encode_call {v : Int} {t : Tok} {a : Addr} {b : Array UInt8} (hA : A.handled = none) (hd : A.depth < 700) (hu : A.units < 5000) (F : Fr g L s.heap m) (N : News g L s.heap news) (X : (Mine.hd.heap_39 w.params).In g) (T : Top q lse mean mg mb g)
    (hm : (a, ba b) ∈ news) (hb : b.size ≤ 500) (hv1 : -(2 ^ 63) ≤ v) (hv2 : v < 2 ^ 63)
    (h : ∀ h' tk tv x, Fr g L h' m → (∀ news', Upd a (ba b) (ba (b ++ bys (zz v))) news news' → News g L h' news') → ((octs (zz v)).length < 6 → x = ((octs (zz v)).length : Int)) → Q (.int x tv) { s with heap := h', toks := tk }) :
    wpC (model pw w) A (call (.ref 21) [.int v t, .ref a]) Q E s := by
  refine wpC_call (encode_spec hA hd hu F.keep X T ⟨(N _ hm).1, (N _ hm).2.2⟩ hb hv1 hv2 fun h' tk tv x hx hc hg => ?_)
  refine h h' tk tv x (fr_chg F (fun a ha => ?_) hc) (fun news' U => news_upd' N hc hg U) hx
  rcases List.mem_singleton.mp ha with rfl
  exact ⟨(N _ hm).2.2, (N _ hm).2.1⟩


/-- the block of a comprehension, whatever its length -/
theorem comp_I {prog : Program} {h₀ : Heap} {env : Env} {elt : Expr} {x : Str} {scope : Scope} {cl : List (Str × Addr)} {S : List (Addr × Obj) → Prop} {P : Nat → Value → Prop} {Fin : List Value → List (Addr × Obj) → Prop} {n : Nat} (J : List Value → List (Addr × Obj) → Prop)
    (step : ∀ ys news i v I oI C oC D m₂ h tk (E' : Value → Shared → Prop), J ys news → ys.length = i → i < n → P i v → LCg.NsObj oC m₂ → m₂ x = some v → Fr h₀ L h m → News h₀ L h ((I, oI) :: (C, oC) :: (D, LCg.lst ys) :: news) → LCg.Off3 I C D news → ((@Ne Nat I C) ∧ (@Ne Nat I D) ∧ (@Ne Nat C D)) →
      wpAny (model prog w) A (eval elt (compEnvC scope cl C env)) (LCg.CompEnd h₀ L m { s with heap := h, toks := tk } I oI C oC D (LCg.lst ys) S (fun y news' => J (ys ++ [y]) news')) E' { s with heap := h, toks := tk })
    (fin : ∀ ys news, J ys news → ys.length = n → Fin ys news) :
    ∀ k i ys news, i + k = n → ys.length = i → J ys news → LCg.CompRest prog w A h₀ L m env elt x scope cl s S P Fin k i ys news
  | 0, i, ys, news, e, hl, j => fin ys news j (by omega)
  | k + 1, i, ys, news, e, hl, j => fun v I oI C oC D m₂ h tk E' hP ho hx F N off ne =>
    wpAny_mono (step ys news i v I oI C oC D m₂ h tk E' j hl (by omega) hP ho hx F N off ne) (fun y s' hc => by
      obtain ⟨h', tk', news', e', F', N', off', hS, r⟩ := hc
      exact ⟨h', tk', news', e', F', N', off', hS, comp_I J step fin k (i + 1) (ys ++ [y]) news' (by omega) (by rw [List.length_append, List.length_singleton, hl]) r⟩) fun _ _ x => x
end
end Vi
namespace Vi
open PySem PySem.W PySem.Calls PyProof.Rows
open Mine (wpC codeC wpC_of_any codeC_of_any wpC_pure wpC_mono wpC_bind wpC_bindA wpC_call)

section
variable {prog : Program} {w : World} {A : Around} {s : Shared} {g : Heap} {L : Addr} {m : Str → Option Value} {mg mb : Str → Option Value} {mean : ExcName → Option Value} {E : Value → Shared → Prop} {Q : Value → Shared → Prop} {news : List (Addr × Obj)} {a : Addr} {b : Array UInt8}

theorem slice_N {value slice : Expr} {k : Nat} {z : Int} {t : Tok} (F : Fr g L s.heap m) (N : News g L s.heap news) (hm : (a, ba b) ∈ news) (hz0 : z = (k : Int)) (hk : k ≤ b.size) (hz : b.size ≤ sizeLine)
    (h : ∀ D h', Fr g L h' m → News g L h' ((D, ba (b.toList.drop k).toArray) :: news) → (∀ p ∈ news, p.1 < D) → Q (.ref D) { s with heap := h' })
    (hs : subscripted slice false (.ref a) (.ref s.heap.objs.size) = operate [.ref s.heap.objs.size, .ref a] (getItem (.ref a) (.ref s.heap.objs.size)) := by with_unfolding_all rfl) :
    wpAny (model prog w) A (subscriptTail value slice (.ref a) (.ref s.heap.objs.size)) Q E { s with heap := s.heap.push { cls := .type "slice", data := .fields #[.int z t, .none, .none] } } := by
  subst hz0
  have ha : (s.heap.push { cls := .type "slice", data := .fields #[.int k t, .none, .none] }).get? a = some (ba b) := Heap.get?_push_of_some _ (N _ hm).1
  refine tail_any (ba_typeIs (s := { s with heap := s.heap.push { cls := .type "slice", data := .fields #[.int k t, .none, .none] } }) ha) slot_ba_getitem.lookup ?_ hs
  refine slice_ba (k := k) (t := t) ha (Heap.IsSliceOf.new ..) hk hz ?_
  have F1 := F.push { cls := .type "slice", data := .fields #[.int k t, .none, .none] }
  have N1 := News.push F1 (N.grown fun _ _ e => Heap.get?_push_of_some _ e) (ba (b.toList.drop k).toArray)
  exact h _ _ (F1.push _) N1 fun p hp => by
    have := Heap.lt_size (N p hp).1
    show p.1 < (s.heap.push _).objs.size
    rw [Heap.size_push]
    exact Nat.lt_succ_of_lt this
theorem slice_A {value slice : Expr} {c x : Array UInt8} {z : Int} {t : Tok} (F : Fr g L s.heap m) (N : News g L s.heap news) (hm : (a, ba (c ++ x)) ∈ news) (hz0 : z = (c.size : Int)) (hz : (c ++ x).size ≤ sizeLine)
    (h : ∀ D h', Fr g L h' m → News g L h' ((D, ba x) :: news) → (∀ p ∈ news, p.1 < D) → Q (.ref D) { s with heap := h' })
    (hs : subscripted slice false (.ref a) (.ref s.heap.objs.size) = operate [.ref s.heap.objs.size, .ref a] (getItem (.ref a) (.ref s.heap.objs.size)) := by with_unfolding_all rfl) :
    wpAny (model prog w) A (subscriptTail value slice (.ref a) (.ref s.heap.objs.size)) Q E { s with heap := s.heap.push { cls := .type "slice", data := .fields #[.int z t, .none, .none] } } :=
  slice_N (k := c.size) F N hm hz0 (by simp) hz (fun D h' F' N' l => h D h' F' (by rw [show ((c ++ x).toList.drop c.size).toArray = x from by simp] at N'; exact N') l) hs
theorem bytes_N (F : Fr g L s.heap m) (N : News g L s.heap news) (hm : (a, ba b) ∈ news) (hz : b.size ≤ sizeLine) (hQ : ∀ t k, Q (.bytes b t) { s with toks := k }) :
    wpAny (model prog w) A (call (.type "bytes") [.ref a]) Q E s := bytes_of_ba (N _ hm).1 hz hQ
theorem len_N (N : News g L s.heap news) (hm : (a, ba b) ∈ news) (hfit : b.size ≤ sizeLine) (hQ : ∀ tk t, Q (.int b.size t) { s with toks := tk }) : wpAny (model prog w) A (call (.builtin "len") [.ref a]) Q E s :=
  len_ba (N _ hm).1 hfit hQ
end

/-! ## The places that the law notes -/
structure Plc (rest : List (Addr × Obj)) (b : Array UInt8) (p : Value) (T : Addr) (pre post : Array UInt8) (v : Int) (t1 t2 t3 : Tok) : Prop where
  val : p = .ref T
  mem : (T, tup [.int (pre.size : Nat) t1, .int v t2, .int ((pre.size + (octs (zz v)).length : Nat) : Int) t3]) ∈ rest
  lay : b = pre ++ bys (zz v) ++ post
  lo : -(2 ^ 63) ≤ v
  hi : v < 2 ^ 63
def IsPlc (rest : List (Addr × Obj)) (b : Array UInt8) (p : Value) : Prop := ∃ T pre post v t1 t2 t3, Plc rest b p T pre post v t1 t2 t3
theorem IsPlc.more {rest rest' : List (Addr × Obj)} {b : Array UInt8} {p : Value} (x : IsPlc rest b p) (c : Array UInt8) (hr : ∀ q ∈ rest, q ∈ rest') : IsPlc rest' (b ++ c) p := by
  obtain ⟨T, pre, post, v, t1, t2, t3, h1, h2, h3, h4, h5⟩ := x
  exact ⟨T, pre, post ++ c, v, t1, t2, t3, h1, hr _ h2, by rw [h3, Array.append_assoc], h4, h5⟩
def OffR (as : List Addr) (rest : List (Addr × Obj)) : Prop := ∀ p ∈ rest, p.1 ∉ as
theorem fr_two {g h : Heap} {L : Addr} {M : Str → Option Value} {x y : Str} {u v : Value} (F : Fr g L h M) (h1 : M x = some u) (h2 : M y = some v) : Fr g L h (fun z => if z = x then some u else if z = y then some v else M z) := fr_same F fun z => by
  by_cases e : z = x
  · subst e; rw [if_pos rfl, h1]
  rw [if_neg e]
  by_cases e : z = y
  · subst e; rw [if_pos rfl, h2]
  rw [if_neg e]
theorem oct_facts {v : Int} (h1 : -(2 ^ 63) ≤ v) (h2 : v < 2 ^ 63) : (bys (zz v)).size = (octs (zz v)).length ∧ (octs (zz v)).length ≤ 10 ∧ 0 < (octs (zz v)).length ∧ zz v < 128 ^ 10 := by
  have hz := zz_lt h1 h2
  exact ⟨bys_size _, octs_len_le 9 _ (by omega), octs_len_pos _, by omega⟩
theorem drop_app (b c : Array UInt8) : ((b ++ c).toList.drop b.size).toArray = c := by simp
end Vi
namespace Vi
open PySem PySem.W PySem.Calls PyProof.Rows
open Mine (wpC codeC wpC_of_any codeC_of_any wpC_pure wpC_mono wpC_bind wpC_bindA wpC_call wpC_onRaise)

theorem below_C {A : Around} {base h₀ h : Heap} {outer : List Env} {L a : Addr} {m : Str → Option Value} {name : Str} {scope : Scope} {cd : Value}
    (K : Below A base outer h₀) (F : Fr h₀ L h m) (hk : scope.kind = .function := by rfl) : Below (A.deeper (envOfC name scope L a cd)) base (envOfC name scope L a cd :: outer) h := by
  have hnew : base.get? L = none := by
    cases hq : base.get? L with
    | none => rfl
    | some o => exact absurd (Nat.lt_of_lt_of_le (Heap.lt_size (K.stays L o hq)) F.above) (Nat.lt_irrefl _)
  refine ⟨Around.frames_deeper K.stack, fun b o e => F.keep b o (K.stays b o e), ?_⟩
  exact .cons (by show scope.kind ≠ .module; rw [hk]; decide) rfl F.ns hnew (K.frames.of_keeps fun b o e _ => ⟨o, F.keep b o e, rfl⟩)

section
variable {w : World} {A : Around} {s : Shared} {g base : Heap} {outer : List Env} {L : Addr} {m : Str → Option Value} {mg mb : Str → Option Value} {mean : ExcName → Option Value} {E : Value → Shared → Prop} {Q : Value → Shared → Prop} {news : List (Addr × Obj)} {a : Addr} {b : Array UInt8}

theorem decode_call {args : List Value} {k e : Nat} {x : Int} {t : Tok} (hA : A.handled = none) (hd : A.depth < 700) (hu : A.units < 5000) (hB : Below A base outer s.heap) (F : Fr g L s.heap m) (N : News g L s.heap news) (X : (Mine.hd.heap_39 w.params).In g) (T : Top q lse mean mg mb g)
    (hm : (a, ba b) ∈ news) (hb : b.size ≤ 1000) (hk : k ≤ 1000) (hr : readR b k = .num x e)
    (hbind : ∀ o fd, (Mine.hd.heap_39 w.params).lookup 36 = some o → o.data = .func fd → BindsTo s fd ⟨args, []⟩ [("buffer", .ref a), ("pos", .int k t)])
    (h : ∀ h' tk D t1 t2, Fr g L h' m → News g L h' ((D, tup [.int x t1, .int (e : Nat) t2]) :: news) → (∀ p ∈ news, p.1 ≠ D) → Q (.ref D) { s with heap := h', toks := tk }) :
    wpAny (model pw w) A (call (.ref 36) args) Q E s := by
  refine wpAny_call (decode_spec (t := t) hA hd hu hB (X.keeps F.keep) (T.keeps F.keep) (N _ hm).1 hb hk hbind (fun h' tk v x' e' hr' hv hc => ?_) (fun h' tk e' Xc hr' _ _ => ?_))
  · rw [hr] at hr'
    cases hr'
    obtain ⟨D, t1, t2, rfl, hv2, hv3⟩ := hv
    obtain ⟨N', ne⟩ := new_of F N hc hv2 hv3
    exact h h' tk D t1 t2 (fr_nil F hc) N' ne
  · rw [hr] at hr'
    rcases hr' with ⟨q, _⟩ | ⟨q, _⟩ <;> cases q

/-- the result of a reading, laid into the ledger -/
def ResN (g : Heap) (L : Addr) (h' : Heap) (news : List (Addr × Obj)) (r : Res) (v : Value) : Prop := match r with
  | .few => (∃ t, v = .str (Str.ofString "few") t) ∧ News g L h' news
  | .far => (∃ t, v = .str (Str.ofString "far") t) ∧ News g L h' news
  | .num x e => ∃ D t1 t2, v = .ref D ∧ News g L h' ((D, tup [.int x t1, .int (e : Nat) t2]) :: news) ∧ ∀ p ∈ news, p.1 ≠ D

theorem plain_call {k : Nat} {t : Tok} (hA : A.handled = none) (hd : A.depth < 700) (hu : A.units < 5000) (F : Fr g L s.heap m) (N : News g L s.heap news) (X : (Mine.hd.heap_39 w.params).In g) (T : Top q lse mean mg mb g)
    (hm : (a, ba b) ∈ news) (hb : b.size ≤ 1000) (hk : k ≤ 1000)
    (h : ∀ h' tk v, Fr g L h' m → ResN g L h' news (readR b k) v → Q v { s with heap := h', toks := tk }) :
    wpAny (model pw w) A (call (.ref 64) [.ref a, .int k t]) Q E s := by
  refine wpAny_call (plain_spec hA hd hu F.keep X T (N _ hm).1 hb hk fun h' tk v hv hc => h h' tk v (fr_nil F hc) ?_)
  cases q : readR b k with
  | few => rw [q] at hv; exact ⟨hv, news_nil N hc⟩
  | far => rw [q] at hv; exact ⟨hv, news_nil N hc⟩
  | num x e =>
    rw [q] at hv
    obtain ⟨D, t1, t2, hv1, hv2, hv3⟩ := hv
    obtain ⟨N', ne⟩ := new_of F N hc hv2 hv3
    exact ⟨D, t1, t2, hv1, N', ne⟩

theorem turn_fr {h h' : Heap} {fs : List Addr} (F : Fr g L h m) (hfs : ∀ b ∈ fs, b = L) (t : KtsTurn fs h h') : Fr g L h' m := by
  obtain ⟨⟨oL, es, ep, hL, hd, r⟩, hk, hb⟩ := F
  obtain ⟨sl, hs⟩ := t.up hL
  refine ⟨⟨_, es, ep, hs, hd, r⟩, fun b o e => t.other b o (hk b o e) fun z => ?_, hb⟩
  have := hfs b z
  subst this
  rw [Heap.get?_none_of_le hb] at e
  cases e
theorem turn_news {h h' : Heap} {fs : List Addr} (N : News g L h news) (hfs : ∀ b ∈ fs, b = L) (t : KtsTurn fs h h') : News g L h' news :=
  fun p hp => ⟨t.other _ _ (N p hp).1 fun z => (N p hp).2.1 (hfs _ z), (N p hp).2⟩
theorem turn_dicts {h : Heap} {fs : List Addr} (F : Fr g L h m) (hfs : ∀ b ∈ fs, b = L) : KtsDicts fs h := fun b hb => by
  have := hfs b hb
  subst this
  obtain ⟨⟨oL, es, ep, hL, hd, r⟩, _⟩ := F
  exact ⟨oL, es, ep, hL, hd⟩

theorem told_call {k : Nat} {t : Tok} (hA : A.handled = none) (hd : A.depth < 600) (hu : A.units < 4000) (hB : Below A base outer s.heap) (hfs : ∀ b ∈ outer.filterMap (·.frame), b = L) (XB : (Mine.hd.heap_39 w.params).In base) (TB : Top q lse mean mg mb base)
    (F : Fr g L s.heap m) (N : News g L s.heap news) (X : (Mine.hd.heap_39 w.params).In g) (T : Top q lse mean mg mb g)
    (hm : (a, ba b) ∈ news) (hb : b.size ≤ 1000) (hk : k ≤ 1000)
    (h : ∀ h' tk v, Fr g L h' m → ResN g L h' news (readR b k) v → Q v { s with heap := h', toks := tk }) :
    wpAny (model pw w) A (call (.ref 71) [.ref a, .int k t]) Q E s := by
  refine wpAny_call (told_spec hA hd hu hB (X.keeps F.keep) (T.keeps F.keep) XB TB (turn_dicts F hfs) (N _ hm).1 hb hk fun h' g' tk v ht hst hv => ?_)
  have F1 := turn_fr F hfs ht
  have N1 := turn_news N hfs ht
  have hc : Chg [] g' h' := .of_stays hst
  have F2 := fr_nil F1 hc
  refine h h' tk v F2 ?_
  cases q : readR b k with
  | few => rw [q] at hv; exact ⟨hv, news_nil N1 hc⟩
  | far => rw [q] at hv; exact ⟨hv, news_nil N1 hc⟩
  | num x e =>
    rw [q] at hv
    obtain ⟨D, t1, t2, hv1, hv2, hv3⟩ := hv
    refine ⟨D, t1, t2, hv1, fun p hp => ?_, fun p hp e => ?_⟩
    · rcases List.mem_cons.mp hp with rfl | hp
      · refine ⟨hv3, fun e => ?_, ?_⟩
        · obtain ⟨oL, _, _, hL, _⟩ := F.ns
          rw [← e] at hL
          rw [hv2] at hL; cases hL
        · cases q : g.get? D with
          | none => rfl
          | some o' => have := F.keep _ _ q; rw [hv2] at this; cases this
      · exact news_nil N1 hc p hp
    · have := (N p hp).1
      rw [e, hv2] at this; cases this
end

section
variable {prog : Program} {w : World} {A : Around} {E : Value → Shared → Prop} {s : Shared} {env : Env} {g : Heap} {L a : Addr} {m : Str → Option Value} {news rest : List (Addr × Obj)} {b : Array UInt8}
theorem app_goN {z : Int} {t : Tok} {code : List Stmt} {Q : Flow → Shared → Prop} {H : Heap} {K : Nat} (s₀ : Shared) (F : Fr g L H m) (N : News g L H news) (hm : (a, ba b) ∈ news) (h0 : 0 ≤ z) (h1 : z < 256)
    (h : ∀ h' c, Fr g L h' m → (∀ news', Upd a (ba b) (ba (b ++ c)) news news' → News g L h' news') → c.size = 1 → wpC (model prog w) A (execs code env) Q E { s₀ with heap := h', toks := K }) :
    Hold (∃ (k : Nat) (t' : Tok), Value.int z t = .int k t' ∧ k < 256 ∧ H.get? a = some (ba b) ∧
        ∀ h', Chg [a] H h' → h'.get? a = some (ba (b.push (UInt8.ofNat k))) → wpC (model prog w) A (execs code env) Q E { s₀ with heap := h', toks := K }) := by
  obtain ⟨k, rfl⟩ := Int.eq_ofNat_of_zero_le h0
  have z := N _ hm
  refine ⟨⟨k, t, rfl, by omega, z.1, fun h' c1 c2 => h h' #[UInt8.ofNat k] (fr_chg F (fun a' ha => ?_) c1) (fun news' U => news_upd' N c1 ?_ U) rfl⟩⟩
  · rcases List.mem_singleton.mp ha with rfl
    exact ⟨z.2.2, z.2.1⟩
  · rw [c2, Array.push_eq_append]

/-- a list's iterator in the ledger -/
def LiO (o : Obj) (l : Addr) (i : Nat) : Prop := o.cls = .type "list_iterator" ∧ o.data = .fields #[.ref l, .int i 0]
theorem list_iter_N {l : Addr} {vs : List Value} {n : Nat} {Q : Value → Shared → Prop} (F : Fr g L s.heap m) (N : News g L s.heap news) (hm : (l, lst vs n) ∈ news)
    (h : ∀ h' it oi, LiO oi l 0 → Fr g L h' m → News g L h' ((it, oi) :: news) → (∀ p ∈ news, p.1 < it) → Q (.ref it) { s with heap := h' }) : wpAny (model prog w) A (pyIter (.ref l)) Q E s :=
  wpAny_pyIter_list (items := vs.toArray) ⟨_, (N _ hm).1, rfl, _, rfl⟩ (h _ _ _ ⟨rfl, rfl⟩ (F.push _) (N.push F _) fun p hp => Heap.lt_size (N p hp).1)
theorem list_next_N {it l : Addr} {oi : Obj} {i n : Nat} {vs : List Value} {x : Value} {Q : Option Value → Shared → Prop} (F : Fr g L s.heap m) (N : News g L s.heap ((it, oi) :: rest)) (ho : LiO oi l i) (hm : (l, lst vs n) ∈ rest) (hne : ∀ p ∈ rest, p.1 ≠ it) (hx : vs[i]? = some x)
    (h : ∀ h' oi', LiO oi' l (i + 1) → Fr g L h' m → News g L h' ((it, oi') :: rest) → Q (some x) { s with heap := h' }) : wpAny (model prog w) A (pyNext (.ref it)) Q E s := by
  have z := N (it, oi) (.head _)
  refine wpAny_pyNext_list_item (items := vs.toArray) ⟨oi, z.1, ho.1, ho.2⟩ ⟨_, (N _ (.tail _ hm)).1, rfl, _, rfl⟩ (by simpa using hx) fun h' hi hs => ?_
  obtain ⟨oi', e1, e2, e3⟩ := hi
  exact h h' oi' ⟨e2, e3⟩ (F.change hs z.2.1 z.2.2) (news_set (pre := []) N (fun p hp => nomatch hp) hne hs e1)
theorem list_end_N {it l : Addr} {oi : Obj} {i n : Nat} {vs : List Value} {Q : Option Value → Shared → Prop} (hh : A.handled = none) (F : Fr g L s.heap m) (N : News g L s.heap ((it, oi) :: rest)) (ho : LiO oi l i) (hm : (l, lst vs n) ∈ rest) (hne : ∀ p ∈ rest, p.1 ≠ it) (hx : vs.length ≤ i)
    (h : ∀ h', Fr g L h' m → News g L h' rest → Q none { s with heap := h' }) : wpAny (model prog w) A (pyNext (.ref it)) Q E s := by
  have z := N (it, oi) (.head _)
  refine wpAny_pyNext_list_end hh (items := vs.toArray) ⟨oi, z.1, ho.1, ho.2⟩ ⟨_, (N _ (.tail _ hm)).1, rfl, _, rfl⟩ (by simpa using hx) fun h' he => h h' ?_ fun p hp => ⟨he _ _ (hne p hp) (N p (.tail _ hp)).1, (N p (.tail _ hp)).2⟩
  obtain ⟨oL, es, ep, hL, r⟩ := F.ns
  exact ⟨⟨oL, es, ep, he _ _ (Ne.symm z.2.1) hL, r⟩, (fun b o e => he b o (fun q => by rw [q, z.2.2] at e; cases e) (F.keep b o e)), F.above⟩

/-- a loop over a list of tuples -/
theorem loopTC {elts : List Expr} {k : Nat} {tp : Pos} {it : Addr} {body : List Stmt} {Q : Flow → Shared → Prop} (I : Nat → Shared → Prop) (n : Nat) (h : I n s)
    (turn : ∀ n s, I n s → wpAny (model prog w) A (pyNext (.ref it)) (fun r s₁ => match r with
      | none => Q .next s₁
      | some v => ∃ l i T, v = .ref T ∧ s₁.heap.IsListIter it l i ∧ wpAny (model prog w) A (assign (.Tuple elts k tp) env v) (fun _ s₂ => Hold (wpC (model prog w) A (execs body env) (fun f s₃ => match f with
          | .next => Back I n s₃
          | .cont => Back I n s₃
          | .brk => Q .next s₃
          | .ret v => Q (.ret v) s₃) noE s₂)) noE s₁) noE s) : wpC (model prog w) A (runOwn (.forLoop (.Tuple elts k tp) (.ref it) body [] env) env) Q E s := by
  refine wpC_runOwn (codeC_loop rfl rfl I (fun n s hI => ?_) n h)
  show wpC _ A ((forTurn (.Tuple elts k tp) (.ref it) body [] env).onRaise (fun x => do noteFrame x env; theTreesLotGoes x)) _ _ s
  refine wpC_noted ?_
  simp only [forTurn]
  refine wpC_bindA (wpAny_standAt (wpC_bindA (wpAny_onRaise (wpAny_mono (turn n s hI) (fun r s₁ h₁ => ?_) fun _ _ h' => wpAny_standAt h'))))
  cases r with
  | none => exact wpC_pure (.inr ⟨rfl, codeC_of_any (codeAny_block (wpAny_execs_nil h₁))⟩)
  | some v =>
    obtain ⟨l, i, T, rfl, hit, h₁⟩ := h₁
    refine wpC_bindA (wpAny_letOwnedTupleGo_listiter hit ?_)
    refine wpC_bindA (wpAny_mono h₁ (fun _ s₂ h₂ => wpC_bind (wpC_mono h₂.out (fun f s₃ h₃ => ?_) fun _ _ h' => h')) fun _ _ h' => h')
    cases f with
    | next => exact wpC_pure (.inl ⟨rfl, h₃.out⟩)
    | cont => exact wpC_pure (.inl ⟨rfl, h₃.out⟩)
    | brk => exact wpC_pure h₃
    | ret v => exact wpC_pure h₃
end
theorem plc_read {rest : List (Addr × Obj)} {b : Array UInt8} {p : Value} {T : Addr} {pre post : Array UInt8} {v : Int} {t1 t2 t3 : Tok} (P : Plc rest b p T pre post v t1 t2 t3) : readR b pre.size = .num v (pre.size + (octs (zz v)).length) := by
  have := readR_octs (oct_facts P.lo P.hi).2.2.2 P.lay
  rw [uz_zz] at this
  exact this
theorem plc_bound {rest : List (Addr × Obj)} {b : Array UInt8} {p : Value} {T : Addr} {pre post : Array UInt8} {v : Int} {t1 t2 t3 : Tok} (P : Plc rest b p T pre post v t1 t2 t3) : pre.size ≤ b.size := by
  have := congrArg Array.size P.lay
  rw [Array.size_append, Array.size_append] at this
  omega
def placI (s : Shared) (g : Heap) (L la pa it : Addr) (rest : List (Addr × Obj)) (n : Nat) (s' : Shared) : Prop :=
  ∃ h' tk i oi, ∃ m' : Str → Option Value, n = 5 - i ∧ i ≤ 5 ∧ s' = { s with heap := h', toks := tk } ∧
    Fr g L h' (fun y => if y = Str.ofString "laid" then some (.ref la) else if y = Str.ofString "places" then some (.ref pa) else m' y) ∧ News g L h' ((it, oi) :: rest) ∧ LiO oi pa i
section
variable {prog : Program} {w : World} {A : Around} {E : Value → Shared → Prop} {s : Shared} {env : Env}
/-- a statement walked by the library in several branches that meet again -/
theorem stJ {st : Stmt} {rest : List Stmt} {Q : Flow → Shared → Prop} (J : Shared → Prop)
    (h : wpAny (model prog w) A (exec st env) (fun f s' => match f with | .next => Hold (J s') | .brk => Hold False | .cont => Hold False | .ret _ => Hold False) noE s)
    (k : ∀ s', J s' → wpC (model prog w) A (execs rest env) Q E s') : wpC (model prog w) A (execs (st :: rest) env) Q E s := by
  refine wpC_execs_cons (wpC_of_any (wpAny_mono h (fun f s' h' => ?_) fun _ _ x => x.elim))
  cases f with
  | next => exact k _ h'.out
  | brk => exact h'.out.elim
  | cont => exact h'.out.elim
  | ret v => exact h'.out.elim
end
theorem five {ps : List Value} (h : ps.length = 5) : ∃ p0 p1 p2 p3 p4, ps = [p0, p1, p2, p3, p4] := by
  match ps, h with
  | [p0, p1, p2, p3, p4], _ => exact ⟨_, _, _, _, _, rfl⟩
theorem decode_call0 {w : World} {A : Around} {s : Shared} {g base : Heap} {outer : List Env} {L : Addr} {m : Str → Option Value} {mg mb : Str → Option Value} {mean : ExcName → Option Value} {E : Value → Shared → Prop} {Q : Value → Shared → Prop} {news : List (Addr × Obj)} {a : Addr} {b : Array UInt8}
    {args : List Value} {e : Nat} {x : Int} {t : Tok} (hA : A.handled = none) (hd : A.depth < 700) (hu : A.units < 5000) (hB : Below A base outer s.heap) (F : Fr g L s.heap m) (N : News g L s.heap news) (X : (Mine.hd.heap_39 w.params).In g) (T : Top q lse mean mg mb g)
    (hm : (a, ba b) ∈ news) (hb : b.size ≤ 1000) (hr : readR b 0 = .num x e)
    (hbind : ∀ o fd, (Mine.hd.heap_39 w.params).lookup 36 = some o → o.data = .func fd → BindsTo s fd ⟨args, []⟩ [("buffer", .ref a), ("pos", .int 0 t)])
    (h : ∀ h' tk D t1 t2, Fr g L h' m → News g L h' ((D, tup [.int x t1, .int (e : Nat) t2]) :: news) → (∀ p ∈ news, p.1 ≠ D) → Q (.ref D) { s with heap := h', toks := tk }) :
    wpAny (model pw w) A (call (.ref 36) args) Q E s := decode_call (k := 0) hA hd hu hB F N X T hm hb (by omega) hr hbind h
def endJ (s : Shared) (g : Heap) (L c ha scr : Addr) (oc : Obj) (k : Int) (t : Tok) (s' : Shared) : Prop :=
  ∃ h' tk, ∃ M : Str → Option Value, s' = { s with heap := h', toks := tk } ∧ Fr g L h' M ∧ News g L h' [(ha, lst [.ref scr, .int k t]), (c, oc)]
theorem endJ_of {s : Shared} {g h' : Heap} {L c ha scr : Addr} {oc : Obj} {k : Int} {t : Tok} {tk : Nat} {M : Str → Option Value} {news : List (Addr × Obj)} (F : Fr g L h' M) (N : News g L h' news) (h1 : (ha, lst [.ref scr, .int k t]) ∈ news) (h2 : (c, oc) ∈ news) :
    endJ s g L c ha scr oc k t { s with heap := h', toks := tk } := ⟨h', tk, M, rfl, F, fun p hp => by
  rcases List.mem_cons.mp hp with rfl | hp
  · exact N _ h1
  · rcases List.mem_singleton.mp hp with rfl
    exact N _ h2⟩
theorem stEnd {prog : Program} {w : World} {A : Around} {E : Value → Shared → Prop} {s : Shared} {env : Env} {g H : Heap} {L pa la c ha scr : Addr} {op ol oc : Obj} {k : Int} {t : Tok} {rest : List (Addr × Obj)} {st : Stmt} {code : List Stmt} {Q : Flow → Shared → Prop} (s₀ : Shared)
    (_ : News g L H ((pa, op) :: (la, ol) :: (ha, lst [.ref scr, .int k t]) :: (c, oc) :: rest))
    (h : wpAny (model prog w) A (exec st env) (fun f s' => match f with | .next => Hold (endJ s₀ g L c ha scr oc k t s') | .brk => Hold False | .cont => Hold False | .ret _ => Hold False) noE s)
    (k : ∀ h' tk M, Fr g L h' M → News g L h' [(ha, lst [.ref scr, .int k t]), (c, oc)] → wpC (model prog w) A (execs code env) Q E { s₀ with heap := h', toks := tk }) : wpC (model prog w) A (execs (st :: code) env) Q E s :=
  stJ _ h fun s' ⟨h', tk, M, e, F, N⟩ => e ▸ k h' tk M F N
theorem plain_few {w : World} {A : Around} {s : Shared} {g : Heap} {L : Addr} {m : Str → Option Value} {mg mb : Str → Option Value} {mean : ExcName → Option Value} {E : Value → Shared → Prop} {Q : Value → Shared → Prop} {news : List (Addr × Obj)} {a : Addr} {b : Array UInt8} {k : Nat} {t : Tok} (hA : A.handled = none) (hd : A.depth < 700) (hu : A.units < 5000) (F : Fr g L s.heap m) (N : News g L s.heap news) (X : (Mine.hd.heap_39 w.params).In g) (T : Top q lse mean mg mb g)
    (hm : (a, ba b) ∈ news) (hq : readR b k = .few) (hb : b.size ≤ 1000) (hk : k ≤ 1000)
    (h : ∀ h' tk t, Fr g L h' m → News g L h' news → Q (.str (Str.ofString "few") t) { s with heap := h', toks := tk }) :
    wpAny (model pw w) A (call (.ref 64) [.ref a, .int k t]) Q E s := by
  refine plain_call hA hd hu  F N X T hm hb hk fun h' tk v F' r => ?_
  rw [hq] at r
  obtain ⟨⟨t, rfl⟩, N'⟩ := r
  exact h h' tk t F' N'
theorem plain_far {w : World} {A : Around} {s : Shared} {g : Heap} {L : Addr} {m : Str → Option Value} {mg mb : Str → Option Value} {mean : ExcName → Option Value} {E : Value → Shared → Prop} {Q : Value → Shared → Prop} {news : List (Addr × Obj)} {a : Addr} {b : Array UInt8} {k : Nat} {t : Tok} (hA : A.handled = none) (hd : A.depth < 700) (hu : A.units < 5000) (F : Fr g L s.heap m) (N : News g L s.heap news) (X : (Mine.hd.heap_39 w.params).In g) (T : Top q lse mean mg mb g)
    (hm : (a, ba b) ∈ news) (hq : readR b k = .far) (hb : b.size ≤ 1000) (hk : k ≤ 1000)
    (h : ∀ h' tk t, Fr g L h' m → News g L h' news → Q (.str (Str.ofString "far") t) { s with heap := h', toks := tk }) :
    wpAny (model pw w) A (call (.ref 64) [.ref a, .int k t]) Q E s := by
  refine plain_call hA hd hu  F N X T hm hb hk fun h' tk v F' r => ?_
  rw [hq] at r
  obtain ⟨⟨t, rfl⟩, N'⟩ := r
  exact h h' tk t F' N'
theorem plain_num {w : World} {A : Around} {s : Shared} {g : Heap} {L : Addr} {m : Str → Option Value} {mg mb : Str → Option Value} {mean : ExcName → Option Value} {E : Value → Shared → Prop} {Q : Value → Shared → Prop} {news : List (Addr × Obj)} {a : Addr} {b : Array UInt8} {k : Nat} {t : Tok} {x : Int} {e : Nat} (hA : A.handled = none) (hd : A.depth < 700) (hu : A.units < 5000) (F : Fr g L s.heap m) (N : News g L s.heap news) (X : (Mine.hd.heap_39 w.params).In g) (T : Top q lse mean mg mb g)
    (hm : (a, ba b) ∈ news) (hq : readR b k = .num x e) (hb : b.size ≤ 1000) (hk : k ≤ 1000)
    (h : ∀ h' tk D t1 t2, Fr g L h' m → News g L h' ((D, tup [.int x t1, .int (e : Nat) t2]) :: news) → (∀ p ∈ news, p.1 ≠ D) → Q (.ref D) { s with heap := h', toks := tk }) :
    wpAny (model pw w) A (call (.ref 64) [.ref a, .int k t]) Q E s := by
  refine plain_call hA hd hu  F N X T hm hb hk fun h' tk v F' r => ?_
  rw [hq] at r
  obtain ⟨D, t1, t2, rfl, N', ne⟩ := r
  exact h h' tk D t1 t2 F' N' ne
theorem told_few {w : World} {A : Around} {s : Shared} {g base : Heap} {outer : List Env} {L : Addr} {m : Str → Option Value} {mg mb : Str → Option Value} {mean : ExcName → Option Value} {E : Value → Shared → Prop} {Q : Value → Shared → Prop} {news : List (Addr × Obj)} {a : Addr} {b : Array UInt8} {k : Nat} {t : Tok} (hA : A.handled = none) (hd : A.depth < 600) (hu : A.units < 4000) (hB : Below A base outer s.heap) (hfs : ∀ b ∈ outer.filterMap (·.frame), b = L) (XB : (Mine.hd.heap_39 w.params).In base) (TB : Top q lse mean mg mb base) (F : Fr g L s.heap m) (N : News g L s.heap news) (X : (Mine.hd.heap_39 w.params).In g) (T : Top q lse mean mg mb g)
    (hm : (a, ba b) ∈ news) (hq : readR b k = .few) (hb : b.size ≤ 1000) (hk : k ≤ 1000)
    (h : ∀ h' tk t, Fr g L h' m → News g L h' news → Q (.str (Str.ofString "few") t) { s with heap := h', toks := tk }) :
    wpAny (model pw w) A (call (.ref 71) [.ref a, .int k t]) Q E s := by
  refine told_call hA hd hu hB hfs XB TB F N X T hm hb hk fun h' tk v F' r => ?_
  rw [hq] at r
  obtain ⟨⟨t, rfl⟩, N'⟩ := r
  exact h h' tk t F' N'
theorem told_far {w : World} {A : Around} {s : Shared} {g base : Heap} {outer : List Env} {L : Addr} {m : Str → Option Value} {mg mb : Str → Option Value} {mean : ExcName → Option Value} {E : Value → Shared → Prop} {Q : Value → Shared → Prop} {news : List (Addr × Obj)} {a : Addr} {b : Array UInt8} {k : Nat} {t : Tok} (hA : A.handled = none) (hd : A.depth < 600) (hu : A.units < 4000) (hB : Below A base outer s.heap) (hfs : ∀ b ∈ outer.filterMap (·.frame), b = L) (XB : (Mine.hd.heap_39 w.params).In base) (TB : Top q lse mean mg mb base) (F : Fr g L s.heap m) (N : News g L s.heap news) (X : (Mine.hd.heap_39 w.params).In g) (T : Top q lse mean mg mb g)
    (hm : (a, ba b) ∈ news) (hq : readR b k = .far) (hb : b.size ≤ 1000) (hk : k ≤ 1000)
    (h : ∀ h' tk t, Fr g L h' m → News g L h' news → Q (.str (Str.ofString "far") t) { s with heap := h', toks := tk }) :
    wpAny (model pw w) A (call (.ref 71) [.ref a, .int k t]) Q E s := by
  refine told_call hA hd hu hB hfs XB TB F N X T hm hb hk fun h' tk v F' r => ?_
  rw [hq] at r
  obtain ⟨⟨t, rfl⟩, N'⟩ := r
  exact h h' tk t F' N'
theorem told_num {w : World} {A : Around} {s : Shared} {g base : Heap} {outer : List Env} {L : Addr} {m : Str → Option Value} {mg mb : Str → Option Value} {mean : ExcName → Option Value} {E : Value → Shared → Prop} {Q : Value → Shared → Prop} {news : List (Addr × Obj)} {a : Addr} {b : Array UInt8} {k : Nat} {t : Tok} {x : Int} {e : Nat} (hA : A.handled = none) (hd : A.depth < 600) (hu : A.units < 4000) (hB : Below A base outer s.heap) (hfs : ∀ b ∈ outer.filterMap (·.frame), b = L) (XB : (Mine.hd.heap_39 w.params).In base) (TB : Top q lse mean mg mb base) (F : Fr g L s.heap m) (N : News g L s.heap news) (X : (Mine.hd.heap_39 w.params).In g) (T : Top q lse mean mg mb g)
    (hm : (a, ba b) ∈ news) (hq : readR b k = .num x e) (hb : b.size ≤ 1000) (hk : k ≤ 1000)
    (h : ∀ h' tk D t1 t2, Fr g L h' m → News g L h' ((D, tup [.int x t1, .int (e : Nat) t2]) :: news) → (∀ p ∈ news, p.1 ≠ D) → Q (.ref D) { s with heap := h', toks := tk }) :
    wpAny (model pw w) A (call (.ref 71) [.ref a, .int k t]) Q E s := by
  refine told_call hA hd hu hB hfs XB TB F N X T hm hb hk fun h' tk v F' r => ?_
  rw [hq] at r
  obtain ⟨D, t1, t2, rfl, N', ne⟩ := r
  exact h h' tk D t1 t2 F' N' ne
def atI (s : Shared) (g : Heap) (L sa it : Addr) (sb : Array UInt8) (n : Nat) (s' : Shared) : Prop :=
  ∃ h' tk i, ∃ M : Str → Option Value, n = sb.size + 1 - i ∧ i ≤ sb.size + 1 ∧ s' = { s with heap := h', toks := tk } ∧ Fr g L h' (fun y => if y = Str.ofString "strange" then some (.ref sa) else M y) ∧
    News g L h' [(it, ri (i : Nat) (((sb.size + 1 : Nat) : Int) - (i : Nat))), (sa, ba sb)]
theorem fr_one {g h : Heap} {L : Addr} {M : Str → Option Value} {x : Str} {u : Value} (F : Fr g L h M) (h1 : M x = some u) : Fr g L h (fun z => if z = x then some u else M z) := fr_same F fun z => by
  by_cases e : z = x
  · subst e; rw [if_pos rfl, h1]
  rw [if_neg e]
theorem at_step {s : Shared} {g h1 : Heap} {L sa it : Addr} {sb : Array UInt8} {n i tk : Nat} {M : Str → Option Value} {news : List (Addr × Obj)} (hn : n = sb.size + 1 - i) (hi : i < sb.size + 1) (F : Fr g L h1 M) (hM : M (Str.ofString "strange") = some (.ref sa)) (N : News g L h1 news)
    (m1 : (it, ri ((i : Int) + 1) (((sb.size + 1 : Nat) : Int) - (i : Nat) - 1)) ∈ news) (m2 : (sa, ba sb) ∈ news) : Back (atI s g L sa it sb) n { s with heap := h1, toks := tk } := by
  refine ⟨⟨n - 1, by omega, h1, tk, i + 1, _, by omega, by omega, rfl, fr_one F hM, fun p hp => ?_⟩⟩
  rw [show (((i + 1 : Nat)) : Int) = (i : Int) + 1 by omega, show ((sb.size + 1 : Nat) : Int) - ((i : Int) + 1) = ((sb.size + 1 : Nat) : Int) - (i : Nat) - 1 by omega] at hp
  rcases List.mem_cons.mp hp with rfl | hp
  · exact N _ m1
  · rcases List.mem_singleton.mp hp with rfl
    exact N _ m2
end Vi
namespace Vi
open PySem PySem.W PySem.Calls PyProof.Rows
open Mine (wpC codeC wpC_of_any codeC_of_any wpC_pure wpC_mono wpC_bind wpC_bindA wpC_call)
theorem fillL : PySem.Challenge.rw_je0012_01 = PySem.Challenge.rw_je0012_01 ∧ Mine.hd.heap_39 = Mine.hd.heap_39 := by w_top off; k_fill; exact ⟨rfl, rfl⟩

theorem boot_ba : bootBuiltins "bytearray" = some (.type "bytearray") := by first | rfl | kernel_rfl | decide +kernel
theorem name_ba {w : World} {A : Around} {E : Value → Shared → Prop} {s : Shared} {h₀ : Heap} {L a : Addr} {m mg mb : Str → Option Value} {mean : ExcName → Option Value} {cn : Str} {cs : Scope} {ccd : Value} {pos : Pos} {Q : Value → Shared → Prop} (F : Fr h₀ L s.heap m) (X : (Mine.hd.heap_39 w.params).In h₀) (T : Top q lse mean mg mb h₀)
    (e : nsIn (Mine.hd.heap_39 w.params) mainGlobals "bytearray" = some none) (h : Q (.type "bytearray") s) (hk : cs.kind = .function := by rfl) (hx : (envOfC cn cs L a ccd).kindOf "bytearray" = some .globalImplicit := by rfl) :
    wpAny (model pw w) A (eval (.Name "bytearray" pos) (envOfC cn cs L a ccd)) Q E s :=
  Name_function_global hk hx (loadGlobal_builtin (env := envOfC cn cs L a ccd) (T.g.keeps F.keep) (mg_none_of X T.g e) (T.b.keeps F.keep) ((T.builtins _ (by decide)).trans boot_ba) h)
theorem rsize {x : Int} (h : 0 ≤ x) : Builtin.Range.rangeSize 0 x 1 = ((x.toNat : Nat) : Int) := by
  unfold Builtin.Range.rangeSize
  rw [if_pos (by decide)]
  split <;> omega
def drawJ (scr ha c : Addr) (oc : Obj) (k0 : Int) (ys : List Value) (news : List (Addr × Obj)) : Prop :=
  ∃ k t ns', news = [(ha, lst [.ref scr, .int k t]), (c, oc)] ∧ IntsAre ys ns' ∧ (∀ n ∈ ns', 0 ≤ n ∧ n < 256) ∧ k = k0 + ys.length
def drawK (scr ha c : Addr) (oc : Obj) (k0 : Int) (ys : List Value) (news : List (Addr × Obj)) : Prop :=
  ∃ k t ns', news = [(ha, lst [.ref scr, .int k t]), (c, oc)] ∧ IntsAre ys ns' ∧ (∀ n ∈ ns', 0 ≤ n ∧ n < 256) ∧ 0 ≤ k ∧ k ≤ k0 + 2 * ys.length
theorem getD4 {x : Int} (n : Nat) (h0 : 0 ≤ x) (h1 : x < 256) : 0 ≤ ([128, 255, 129, x] : List Int).getD n 0 ∧ ([128, 255, 129, x] : List Int).getD n 0 < 256 := by
  match n with
  | 0 => exact ⟨(by decide : (0 : Int) ≤ 128), (by decide : (128 : Int) < 256)⟩
  | 1 => exact ⟨(by decide : (0 : Int) ≤ 255), (by decide : (255 : Int) < 256)⟩
  | 2 => exact ⟨(by decide : (0 : Int) ≤ 129), (by decide : (129 : Int) < 256)⟩
  | 3 => exact ⟨h0, h1⟩
  | n + 4 => exact ⟨(by decide : (0 : Int) ≤ 0), (by decide : (0 : Int) < 256)⟩
theorem in256 {ns : List Int} {x : Int} (h : ∀ n ∈ ns, 0 ≤ n ∧ n < 256) (h0 : 0 ≤ x) (h1 : x < 256) : ∀ n ∈ ns ++ [x], 0 ≤ n ∧ n < 256 := fun n hn => by
  rcases List.mem_append.mp hn with q | q
  · exact h n q
  · rcases List.mem_singleton.mp q with rfl; exact ⟨h0, h1⟩
theorem drawK_end {h₀ h' : Heap} {L tl I C D ha scr c : Addr} {ol oI oC oD oc : Obj} {m : Str → Option Value} {s₁ : Shared} {tk : Nat} {k k0 x : Int} {n : Nat} {t u t₀ : Tok} {o1' : Obj} {ys : List Value} {ns : List Int} (F : Fr h₀ L h' m)
    (N : News h₀ L h' [(tl, ol), (I, oI), (C, oC), (D, oD), (ha, lst [.ref scr, .int (k + 1 + 1) t]), (c, oc)]) (o1 : lst [.ref scr, .int k t₀] = o1') (off : LCg.Off3 I C D [(ha, o1'), (c, oc)])
    (hi : IntsAre ys ns) (hr : ∀ n ∈ ns, 0 ≤ n ∧ n < 256) (h0 : 0 ≤ x) (h1 : x < 256) (hk0 : 0 ≤ k) (hk : k ≤ k0 + 2 * ys.length) :
    LCg.CompEnd h₀ L m s₁ I oI C oC D oD (fun _ => True) (fun y news' => drawK scr ha c oc k0 (ys ++ [y]) news') (.int (([128, 255, 129, x] : List Int).getD n 0) u) { s₁ with heap := h', toks := tk } := by
  obtain ⟨g0, g1⟩ := getD4 n h0 h1
  refine LCg.CompEnd.intro F N [(ha, lst [.ref scr, .int (k + 1 + 1) t]), (c, oc)] (fun p hp => .tail _ hp) ⟨off.1, off.2⟩ trivial ⟨_, _, _, rfl, hi.append (.cons _ _ .nil), in256 hr g0 g1, by omega, ?_⟩
  rw [List.length_append, List.length_singleton]; omega
def lawI (s : Shared) (g : Heap) (L c it la pa ha scr : Addr) (oc : Obj) (n : Nat) (s' : Shared) : Prop :=
  ∃ h' tk i k t, ∃ m' : Str → Option Value, ∃ b ps pe rest, n = 5 - i ∧ i ≤ 5 ∧ s' = { s with heap := h', toks := tk } ∧
    Fr g L h' (fun y => if y = Str.ofString "laid" then some (.ref la) else if y = Str.ofString "places" then some (.ref pa) else m' y) ∧
    News g L h' ((it, ri (i : Nat) ((5 : Int) - (i : Nat))) :: (pa, lst ps pe) :: (la, ba b) :: (ha, lst [.ref scr, .int k t]) :: (c, oc) :: rest) ∧
    0 ≤ k ∧ k ≤ 50 + 10 * i ∧ b.size ≤ 50 + 10 * i ∧ ps.length = i ∧ (∀ p ∈ ps, IsPlc rest b p) ∧ OffR [it, pa, la, ha, c] rest

theorem law_step {s : Shared} {g h1 : Heap} {L c it la pa ha scr Tt D : Addr} {oc od : Obj} {n i tk pe : Nat} {k v : Int} {t t1 t2 t3 : Tok} {M : Str → Option Value} {b : Array UInt8} {ps : List Value} {rest : List (Addr × Obj)} (hn : n = 5 - i) (h10 : i < 5)
    (F : Fr g L h1 M) (N : News g L h1 ((Tt, tup [.int (b.size : Nat) t1, .int v t2, .int ((b ++ bys (zz v)).size : Nat) t3]) :: (D, od) :: (it, ri ((i : Int) + 1) (5 - (i : Int) - 1)) :: (pa, listOf (ps.toArray.push (.ref Tt)) (pe + 1)) :: (la, ba (b ++ bys (zz v))) :: (ha, lst [.ref scr, .int (k + 5) t]) :: (c, oc) :: rest))
    (m1 : M (Str.ofString "laid") = some (.ref la)) (m2 : M (Str.ofString "places") = some (.ref pa))
    (lv : -(2 ^ 63) ≤ v) (hv : v < 2 ^ 63) (k0 : 0 ≤ k) (k1 : k ≤ 50 + 10 * i) (hb : b.size ≤ 50 + 10 * i) (hps : ps.length = i) (hpl : ∀ p ∈ ps, IsPlc rest b p) (hoff : OffR [it, pa, la, ha, c] rest)
    (hd : @LT.lt Nat _ it Tt ∧ @LT.lt Nat _ pa Tt ∧ @LT.lt Nat _ la Tt ∧ @LT.lt Nat _ ha Tt ∧ @LT.lt Nat _ c Tt) : Back (lawI s g L c it la pa ha scr oc) n { s with heap := h1, toks := tk } := by
  obtain ⟨of1, of2, of3, of4⟩ := oct_facts lv hv
  refine ⟨⟨n - 1, by omega, h1, tk, i + 1, k + 5, t, M, b ++ bys (zz v), ps ++ [.ref Tt], pe + 1, (Tt, tup [.int (b.size : Nat) t1, .int v t2, .int ((b ++ bys (zz v)).size : Nat) t3]) :: rest, by omega, by omega, rfl, fr_two F m1 m2, fun p hp => ?_, by omega, by omega, ?_, ?_, fun p hp => ?_, fun p hp => ?_⟩⟩
  · rw [show (((i + 1 : Nat)) : Int) = (i : Int) + 1 by omega, show (5 : Int) - ((i : Int) + 1) = 5 - (i : Int) - 1 by omega] at hp
    rw [List.push_toArray] at N
    simp only [List.mem_cons] at hp
    rcases hp with rfl | rfl | rfl | rfl | rfl | rfl | hp
    · exact N _ (.tail _ (.tail _ (.head _)))
    · exact N _ (.tail _ (.tail _ (.tail _ (.head _))))
    · exact N _ (.tail _ (.tail _ (.tail _ (.tail _ (.head _)))))
    · exact N _ (.tail _ (.tail _ (.tail _ (.tail _ (.tail _ (.head _))))))
    · exact N _ (.tail _ (.tail _ (.tail _ (.tail _ (.tail _ (.tail _ (.head _)))))))
    · exact N _ (.head _)
    · exact N _ (.tail _ (.tail _ (.tail _ (.tail _ (.tail _ (.tail _ (.tail _ hp)))))))
  · rw [Array.size_append]; omega
  · rw [List.length_append, List.length_singleton, hps]
  · rcases List.mem_append.mp hp with hp | hp
    · exact (hpl p hp).more _ fun q hq => .tail _ hq
    · rcases List.mem_singleton.mp hp with rfl
      refine ⟨Tt, b, #[], v, t1, t2, t3, rfl, ?_, by simp, lv, hv⟩
      rw [Array.size_append, of1]
      exact .head _
  · rcases List.mem_cons.mp hp with rfl | hp
    · intro hm
      simp only [List.mem_cons, List.not_mem_nil, or_false] at hm
      rcases hm with q | q | q | q | q <;> (have q : @Eq Nat _ _ := q; omega)
    · exact hoff p hp
local macro_rules | `(tactic| walk_at "eval Name") => `(tactic| ((with_reducible show wpAny _ _ (eval (Expr.Name "bytearray" _) _) _ _ _); (refine' name_ba ?k1 ?k2 ?k3 ?k4 ?_; (case k1 => assumption); (case k2 => assumption); (case k3 => assumption); (case k4 => k_is))))
local macro_rules | `(tactic| walk_at "CompSrc") => `(tactic| (refine Hold.out ?_))
local macro_rules | `(tactic| walk_at "CompEnd") => `(tactic| (refine Hold.out ?_))
local macro_rules | `(tactic| k_all) => `(tactic| assumption)
local macro_rules | `(tactic| walk_at "call ref") => `(tactic| first
  | ((with_reducible show wpAny _ _ (call (Value.ref _) [Value.ref _, Value.int _ _]) _ _ _); (refine' next_call (by rfl) ?k1 ?k2 (by assumption) (by assumption) (by assumption) (by assumption) (by assumption) (by assumption) (by assumption) ?k3 ?k4 ?k5 ?k6 ?k7 ?_; (case k1 => simp only [depth_deeper, callerA]; decide); (case k2 => simp only [units_deeper, callerA]; decide); (case k3 => k_mem); (case k4 => omega); (case k5 => omega); (case k6 => decide); (case k7 => decide)); intro h' tk' t2' tv' x' F' hN' lo' hi'; (have N' := hN' _ (by k_upd)); clear hN'; (try dsimp only))
  | ((with_reducible show wpAny _ _ (call (Value.ref _) [Value.ref _]) _ _ _); (refine' number_call (by rfl) ?k1 ?k2 (by assumption) (by assumption) (by assumption) (by assumption) (by assumption) (by assumption) (by assumption) ?k3 ?k4 ?k5 ?_; (case k1 => simp only [depth_deeper, callerA]; decide); (case k2 => simp only [units_deeper, callerA]; decide); (case k3 => k_mem); (case k4 => omega); (case k5 => omega)); intro h' tk' t2' tv' x' k' F' hN' ek' lo' hi'; subst ek'; (have N' := hN' _ (by k_upd)); clear hN'; (try dsimp only))
  | ((with_reducible show wpAny _ _ (call (Value.ref _) [Value.int _ _]) _ _ _); (refine' octets_call (by rfl) ?k1 ?k2 (by assumption) (by assumption) (by assumption) (by assumption) (by assumption) (by assumption) ?_; (case k1 => simp only [depth_deeper, callerA]; decide); (case k2 => simp only [units_deeper, callerA]; decide)); intro h' tk' tv' x' F' N' ex'; subst ex'; (try dsimp only))
  | ((with_reducible show wpAny _ _ (call (Value.ref _) [Value.int _ _]) _ _ _); (refine' size_call (by rfl) ?k1 ?k2 (by assumption) (by assumption) (by assumption) (by assumption) (by assumption) (by assumption) ?_; (case k1 => simp only [depth_deeper, callerA]; decide); (case k2 => simp only [units_deeper, callerA]; decide)); intro h' tk' tv' x' F' N' ex'; subst ex'; (try dsimp only)))
local macro_rules | `(tactic| walk_at "call ref") => `(tactic| ((with_reducible show wpAny _ _ (call (Value.ref 36) _) _ _ _); (refine' decode_call (by rfl) ?k1 ?k2 ?kB (by assumption) (by assumption) (by assumption) (by assumption) ?km ?kb ?kk ?kr ?kz ?_; (case k1 => simp only [depth_deeper, callerA]; decide); (case k2 => simp only [units_deeper, callerA]; decide); (case kB => exact below_C (below_caller _) (by assumption)); (case km => k_mem); (case kb => omega); (case kr => assumption); (case kk => omega); (case kz => intro o fd h1 h2; cases h1; cases h2; exact binds_K (Frag.In.keeps (by assumption) (Fr.keep (by assumption))) rfl (by k_is) rfl rfl rfl)); intro h' tk' D' t1' t2' F' N' ne'; (try dsimp only)))
local macro_rules | `(tactic| walk_at "call ref") => `(tactic| ((with_reducible show wpAny _ _ (call (Value.ref 36) [_]) _ _ _); (refine' decode_call0 (by rfl) ?k1 ?k2 ?kB (by assumption) (by assumption) (by assumption) (by assumption) ?km ?kb ?kr ?kz ?_; (case k1 => simp only [depth_deeper, callerA]; decide); (case k2 => simp only [units_deeper, callerA]; decide); (case kB => exact below_C (below_caller _) (by assumption)); (case km => k_mem); (case kb => omega); (case kr => assumption); (case kz => intro o fd h1 h2; cases h1; cases h2; exact binds_K (Frag.In.keeps (by assumption) (Fr.keep (by assumption))) rfl (by k_is) rfl rfl rfl)); intro h' tk' D' t1' t2' F' N' ne'; (try dsimp only)))
local macro_rules | `(tactic| walk_at "call ref") => `(tactic| ((with_reducible show wpAny _ _ (call (Value.ref 64) _) _ _ _); (refine' plain_few (by rfl) ?k1 ?k2 (by assumption) (by assumption) (by assumption) (by assumption) ?km ?kq ?kb ?kk ?_; (case kq => assumption); (case k1 => simp only [depth_deeper, callerA]; decide); (case k2 => simp only [units_deeper, callerA]; decide); (case km => k_mem); (case kb => omega); (case kk => omega)); intro h' tk' t' F' N'; (try dsimp only)))
local macro_rules | `(tactic| walk_at "call ref") => `(tactic| ((with_reducible show wpAny _ _ (call (Value.ref 71) _) _ _ _); (refine' told_few (by rfl) ?k1 ?k2 ?kB ?kf (by assumption) (by assumption) (by assumption) (by assumption) (by assumption) (by assumption) ?km ?kq ?kb ?kk ?_; (case kq => assumption); (case k1 => simp only [depth_deeper, callerA]; decide); (case k2 => simp only [units_deeper, callerA]; decide); (case kB => exact below_C (below_caller _) (by assumption)); (case kf => exact fun b hb => List.mem_singleton.mp hb); (case km => k_mem); (case kb => omega); (case kk => omega)); intro h' tk' t' F' N'; (try dsimp only)))
local macro_rules | `(tactic| walk_at "call ref") => `(tactic| ((with_reducible show wpAny _ _ (call (Value.ref 64) _) _ _ _); (refine' plain_far (by rfl) ?k1 ?k2 (by assumption) (by assumption) (by assumption) (by assumption) ?km ?kq ?kb ?kk ?_; (case kq => assumption); (case k1 => simp only [depth_deeper, callerA]; decide); (case k2 => simp only [units_deeper, callerA]; decide); (case km => k_mem); (case kb => omega); (case kk => omega)); intro h' tk' t' F' N'; (try dsimp only)))
local macro_rules | `(tactic| walk_at "call ref") => `(tactic| ((with_reducible show wpAny _ _ (call (Value.ref 71) _) _ _ _); (refine' told_far (by rfl) ?k1 ?k2 ?kB ?kf (by assumption) (by assumption) (by assumption) (by assumption) (by assumption) (by assumption) ?km ?kq ?kb ?kk ?_; (case kq => assumption); (case k1 => simp only [depth_deeper, callerA]; decide); (case k2 => simp only [units_deeper, callerA]; decide); (case kB => exact below_C (below_caller _) (by assumption)); (case kf => exact fun b hb => List.mem_singleton.mp hb); (case km => k_mem); (case kb => omega); (case kk => omega)); intro h' tk' t' F' N'; (try dsimp only)))
local macro_rules | `(tactic| walk_at "call ref") => `(tactic| ((with_reducible show wpAny _ _ (call (Value.ref 64) _) _ _ _); (refine' plain_num (by rfl) ?k1 ?k2 (by assumption) (by assumption) (by assumption) (by assumption) ?km ?kq ?kb ?kk ?_; (case kq => assumption); (case k1 => simp only [depth_deeper, callerA]; decide); (case k2 => simp only [units_deeper, callerA]; decide); (case km => k_mem); (case kb => omega); (case kk => omega)); intro h' tk' D' t1' t2' F' N' ne'; (try dsimp only)))
local macro_rules | `(tactic| walk_at "call ref") => `(tactic| ((with_reducible show wpAny _ _ (call (Value.ref 71) _) _ _ _); (refine' told_num (by rfl) ?k1 ?k2 ?kB ?kf (by assumption) (by assumption) (by assumption) (by assumption) (by assumption) (by assumption) ?km ?kq ?kb ?kk ?_; (case kq => assumption); (case k1 => simp only [depth_deeper, callerA]; decide); (case k2 => simp only [units_deeper, callerA]; decide); (case kB => exact below_C (below_caller _) (by assumption)); (case kf => exact fun b hb => List.mem_singleton.mp hb); (case km => k_mem); (case kb => omega); (case kk => omega)); intro h' tk' D' t1' t2' F' N' ne'; (try dsimp only)))
local macro_rules | `(tactic| walk_at "pyIter ref") => `(tactic| ((with_reducible show wpAny _ _ (pyIter (Value.ref _)) _ _ _); (refine' range_iter_N ?k1 ?k2 ?k3 ?k4 ?_; (case k1 => k_asm); (case k2 => k_asm); (case k3 => k_asm); (case k4 => first | decide +kernel | exact small_one (by decide) (by decide) (by omega) (by omega))); intro h' it F' N' l1; (try k_lt l1)))
local macro_rules | `(tactic| walk_at "call builtin:len") => `(tactic| ((with_reducible show wpAny _ _ (call (Value.builtin _) [Value.ref _]) _ _ _); (with_reducible rename News _ _ _ _ => kN); (refine' len_N kN ?k1 ?k2 ?_; (case k1 => k_mem); (case k2 => rw [sizeLine_eq]; (try simp only [Array.size_append]); omega)); intro tk' t'))
local macro_rules | `(tactic| walk_at "call type:bytes") => `(tactic| ((with_reducible show wpAny _ _ (call (Value.type _) [Value.ref _]) _ _ _); (with_reducible rename News _ _ _ _ => kN); (refine' bytes_N ?k0 kN ?k1 ?k2 ?_; (case k0 => assumption); (case k1 => k_mem); (case k2 => rw [sizeLine_eq]; omega)); intro t' tk'))
local macro_rules | `(tactic| walk_at "subscriptTail Name Slice ref ref") => `(tactic| ((with_reducible show wpAny _ _ (subscriptTail _ (PySem.Expr.Slice _ _ none _) (Value.ref _) (Value.ref _)) _ _ _); k_dflt (refine' slice_A ?F ?N ?m ?e ?z ?_ ?s; (case F => k_asm); (case N => k_asm); (case m => k_mem); (case e => exact rfl); (case z => rw [sizeLine_eq, Array.size_append]; omega); (case s => with_unfolding_all rfl)); intro D' h' F' N' l1; (try k_lt l1)))

set_option maxHeartbeats 8000000 in
theorem law_spec {w : World} {s : Shared} {mg mb : Str → Option Value} {mean : ExcName → Option Value} {R : Result → Shared → Prop} {scr : Addr} {vs : List Value} {ns : List Int}
    (X : (Mine.hd.heap_39 w.params).In s.heap) (T : Top q lse mean mg mb s.heap) (hs : s.heap.IsList scr vs.toArray) (hi : IntsAre vs ns) (hlen : ns.length ≤ 63)
    (h : ∀ h' tk, Chg [] s.heap h' → R (.ok (.ret (.bool true))) { s with heap := h', toks := tk }) : codeC (model pw w) callerA (.call (.ref 76) ⟨[.ref scr], []⟩) R s := by
  refine callC_cellsN (name := "law") (binds := [("script", .ref scr)]) (by decide) (X _ _ rfl) rfl T.nolimit (codeRec_of X (by rfl)) rfl (kindsX (by rfl) _) (by decide +kernel) ?_
  intro h' tk cells F' N' Y'
  k_cells Y'
  generalize s.heap.objs.size = L at *
  refine stA ?_
  k_steps
  refine ⟨bindType1 (T := "bytearray") ?_⟩
  k_steps
  refine ⟨rfl, ?_⟩
  (with_reducible rename Fr _ _ _ _ => kF; with_reducible rename News _ _ _ _ => kN)
  refine LCg.ListComp_U (F₀ := kF) (by with_unfolding_all rfl) (by decide) (by rfl) (by decide) (by rfl) ?_
  k_steps
  (with_reducible rename Fr _ _ _ _ => kF; with_reducible rename News _ _ _ _ => kN; with_reducible rename IsRange _ _ _ _ _ _ _ _ => kR)
  refine ⟨LCg.CompSrc.range rfl kF kN kR (small_one (by decide) (by decide) (by omega) (by omega)) (rsize (by assumption)) (by rw [sizeLine_eq]; omega) (fun g' => comp_I (drawJ scr _ (L + 1) _ 1) ?_ ?_ _ 0 [] _ (Nat.zero_add _) rfl ⟨_, _, _, rfl, .nil, by simp, rfl⟩)⟩
  · rintro ys news i v I oI C oC D m₂ h1 tk1 E' ⟨k, t, ns', rfl, hi1, hr1, hk⟩ hl hlt ⟨tv, rfl⟩ ho hx kF kN off ne
    simp only [LCg.Off3, and_true] at off
    k_steps
    refine ⟨?_⟩
    lcg_end
    exact ⟨_, _, _, rfl, hi1.append (.cons _ _ .nil), in256 hr1 (by assumption) (by assumption), by rw [List.length_append, List.length_singleton]; omega⟩
  · rintro ys news ⟨k, t, ns', rfl, hi1, hr1, hk⟩ hl D h1 tk1 kF kN o1
    simp only [LCg.Off1, and_true] at o1
    have hsz := hi1.length
    refine ⟨bytearray_C (l := D) ⟨_, (kN _ (.head _)).1, rfl, _, rfl⟩ hi1 hr1 (by rw [sizeLine_eq]; omega) fun h2 la c2 f2 sz2 g2 => ?_⟩
    obtain ⟨kN2, ne2⟩ := new_of kF kN c2 f2 g2
    have kF2 := fr_nil kF c2
    have n1 : @Ne Nat _ la := ne2 _ (.tail _ (.head _))
    have n2 : @Ne Nat _ la := ne2 _ (.tail _ (.tail _ (.head _)))
    have bz := byteArr_size ns'
    replace kN2 : News s.heap L h2 [(la, ba (byteArr ns')), (_, lst [.ref scr, .int k t]), (L + 1, _)] := fun p hp => kN2 p (by rcases List.mem_cons.mp hp with rfl | hp; exact .head _; exact .tail _ (.tail _ hp))
    generalize byteArr ns' = b0 at *
    clear c2 f2 sz2 g2 ne2 kN kF o1
    k_steps
    refine ⟨stA ?_⟩
    k_steps
    refine ⟨wpC_execs_cons (forC ?_)⟩
    k_steps
    (with_reducible rename Fr _ _ _ _ => kF; with_reducible rename News _ _ _ _ => kN)
    refine ⟨loopC (lawI s s.heap L (L + 1) _ _ _ _ scr _) 5 ⟨_, _, 0, k, t, _, b0, [], 0, [], rfl, by omega, rfl, fr_two kF rfl rfl, kN, by omega, by omega, by omega, rfl, (fun _ z => absurd z List.not_mem_nil), (fun _ z => absurd z List.not_mem_nil)⟩ (fun n s' hI => ?_)⟩
    obtain ⟨h1, tk1, i, k, t, m', b, ps, pe, rest, hn, hi5, rfl, kF, kN, k0, k1, hb, hps, hpl, hoff⟩ := hI
    have r1 : ∀ p ∈ rest, p.1 ≠ _ := fun p hp e => hoff p hp (e ▸ .head _)
    have r2 : ∀ p ∈ rest, p.1 ≠ _ := fun p hp e => hoff p hp (e ▸ .tail _ (.head _))
    have r3 : ∀ p ∈ rest, p.1 ≠ _ := fun p hp e => hoff p hp (e ▸ .tail _ (.tail _ (.head _)))
    have r4 : ∀ p ∈ rest, p.1 ≠ _ := fun p hp e => hoff p hp (e ▸ .tail _ (.tail _ (.tail _ (.head _))))
    have r5 : ∀ p ∈ rest, p.1 ≠ _ := fun p hp e => hoff p hp (e ▸ .tail _ (.tail _ (.tail _ (.tail _ (.head _)))))
    by_cases h10 : i < 5
    · refine range_next_N kF kN (.head (by k_all)) (by omega) fun h2 t2 tk2 kF kN => ?_
      dsimp only
      k_steps
      refine ⟨stA ?_⟩
      k_steps
      refine ⟨stA ?_⟩
      k_steps
      refine ⟨stA ?_⟩
      k_steps
      refine ⟨bindArg2 (a := 21) ?_⟩
      k_steps
      refine ⟨rfl, ?_⟩
      k_steps
      (with_reducible rename Fr _ _ _ _ => kF; with_reducible rename News _ _ _ _ => kN)
      refine ⟨⟨_, _, (X.keeps kF.keep) _ _ rfl, rfl⟩, encode_call (by rfl) (by simp only [depth_deeper, callerA]; decide) (by simp only [units_deeper, callerA]; decide) kF kN X T (by k_mem) (by omega) (by assumption) (by assumption) (fun h3 tk3 tv3 x3 kF hN hx => ?_)⟩
      have kN := hN _ (by k_upd)
      clear hN
      dsimp only
      obtain ⟨of1, of2, of3, of4⟩ := oct_facts (by assumption) (by assumption)
      k_steps
      refine ⟨stA ?_⟩
      k_steps
      all_goals (try dsimp only)
      · exact absurd (by assumption : ((bys _).toList != _) = true) (by simp)
      · exfalso; omega
      refine ⟨stA ?_⟩
      k_steps
      all_goals (try dsimp only)
      all_goals first
        | (exfalso; omega)
        | (refine ⟨stA ?_⟩
           k_steps
           (with_reducible rename Fr _ _ _ _ => kF; with_reducible rename News _ _ _ _ => kN)
           refine ⟨wpC_of_any (wpAny_execs_nil ?_)⟩
           exact law_step hn h10 kF kN rfl rfl (by assumption) (by assumption) k0 k1 hb hps hpl hoff (by omega))
    · have hi5 : i = 5 := by omega
      subst hi5
      clear h10 hi5
      refine range_end_N (by rfl) kF kN (by k_all) (by omega) fun h2 kF kN => ?_
      clear r1
      dsimp only
      refine appC (a := la) (b := b) ?_
      k_steps
      refine ⟨rfl, (kN (la, ba b) (by k_mem)).1, by rw [sizeLine_eq]; omega, ?_⟩
      k_steps
      (with_reducible rename Fr _ _ _ _ => kF; with_reducible rename News _ _ _ _ => kN)
      refine' app_goN (a := la) (b := b) s kF kN ?hm ?h0 ?h1 ?_
      case hm => k_mem
      case h0 => assumption
      case h1 => assumption
      intro h3 c kF hN hc1
      have kN := hN _ (by k_upd)
      clear hN
      have hpl' : ∀ p ∈ ps, IsPlc rest (b ++ c) p := fun p hp => (hpl p hp).more c fun _ z => z
      have hb' : (b ++ c).size ≤ 200 := by rw [Array.size_append]; omega
      generalize b ++ c = b at *
      refine wpC_execs_cons (forC ?_)
      k_steps
      refine' list_iter_N kF kN ?hm ?_
      case hm => k_mem
      intro h4 it2 oi ho kF kN l4
      have l5 : ∀ p ∈ (_ : List (Addr × Obj)), p.1 ≠ it2 := fun p hp => Nat.ne_of_lt (l4 p hp)
      clear l4
      refine ⟨loopTC (placI s s.heap L la _ it2 _) 5 ⟨_, _, 0, oi, _, rfl, by omega, rfl, kF, kN, ho⟩ (fun n s' hI => ?_)⟩
      obtain ⟨h1, tk1, i, oi, m', hn, hi5, rfl, kF, kN, ho⟩ := hI
      by_cases h10 : i < 5
      · have hx : ps[i]? = some ps[i] := List.getElem?_eq_getElem _
        obtain ⟨T2, pre, post, v, t1, t2, t3, hP⟩ := hpl' _ (List.getElem_mem (by omega : i < ps.length))
        have hr := plc_read hP
        have hbd := plc_bound hP
        have hmem := hP.mem
        rw [hP.val] at hx
        clear hP
        refine' list_next_N kF kN ho ?hm l5 hx ?_
        case hm => k_mem
        intro h5 oi' ho' kF kN
        refine ⟨_, i + 1, T2, rfl, ⟨_, (kN _ (.head _)).1, ho'.1, ho'.2⟩, ?_⟩
        refine unpackN_ kF kN ⟨_, (kN _ (.tail _ (.tail _ (.tail _ (.tail _ (.tail _ hmem)))))).1, rfl, _, rfl⟩ rfl rfl rfl fun h6 kF kN => ?_
        k_steps
        refine ⟨stA ?_⟩
        k_steps
        all_goals (try dsimp only)
        (with_reducible rename Fr _ _ _ _ => kF; with_reducible rename News _ _ _ _ => kN)
        refine ⟨wpC_of_any (wpAny_execs_nil ?_)⟩
        exact ⟨⟨n - 1, by omega, _, _, i + 1, oi', _, by omega, by omega, rfl, fr_two kF rfl rfl, fun p hp => kN p (.tail _ (.tail _ hp)), ho'⟩⟩
      · refine' list_end_N (vs := ps) (n := pe) (by rfl) kF kN ho ?hm l5 ?hx ?_
        case hm => k_mem
        case hx => omega
        intro h5 kF kN
        dsimp only
        obtain ⟨p0, p1, p2, p3, p4, rfl⟩ := five hps
        obtain ⟨T2, pre, post, v, t1, t2, t3, hP⟩ := hpl' p0 (.head _)
        have hr := plc_read hP
        have hmem := hP.mem
        obtain rfl := hP.val
        clear hP
        refine stEnd s kN ?_ (fun h8 tk8 M8 kF kN => ?_)
        · have kN2 : News s.heap L h5 ((T2, _) :: _) := fun p hp => by
            rcases List.mem_cons.mp hp with rfl | hp
            · exact kN _ (.tail _ (.tail _ (.tail _ (.tail _ hmem))))
            · exact kN p hp
          clear kN
          by_cases hp0 : pre.size = 0
          · rw [hp0] at hr
            k_steps
            all_goals (try dsimp only)
            all_goals first
              | (exfalso; omega)
              | ((with_reducible rename Fr _ _ _ _ => kF; with_reducible rename News _ _ _ _ => kN)
                 exact ⟨endJ_of kF kN (by k_mem) (by k_mem)⟩)
          · k_steps
            all_goals (try dsimp only)
            all_goals first
              | (exfalso; omega)
              | ((with_reducible rename Fr _ _ _ _ => kF; with_reducible rename News _ _ _ _ => kN)
                 exact ⟨endJ_of kF kN (by k_mem) (by k_mem)⟩)
        refine bindType1 (T := "bytearray") ?_
        k_steps
        refine ⟨rfl, ?_⟩
        refine LCg.ListComp_U (F₀ := kF) (by with_unfolding_all rfl) (by decide) (by rfl) (by decide) (by rfl) ?_
        k_steps
        (with_reducible rename Fr _ _ _ _ => kF; with_reducible rename News _ _ _ _ => kN; with_reducible rename IsRange _ _ _ _ _ _ _ _ => kR)
        refine ⟨LCg.CompSrc.range rfl kF kN kR (small_one (by decide) (by decide) (by omega) (by omega)) (rsize (by assumption)) (by rw [sizeLine_eq]; omega) (fun g' => comp_I (drawK scr _ (L + 1) _ 300) ?_ ?_ _ 0 [] _ (Nat.zero_add _) rfl ⟨_, _, _, rfl, .nil, by simp, by omega, by simp; omega⟩)⟩
        · rintro ys news i v I oI C oC D m₂ h1 tk1 E' ⟨k, t, ns', rfl, hi1, hr1, hk0, hk⟩ hl hlt ⟨tv, rfl⟩ ho hx kF kN off ne
          have off' := off
          simp only [LCg.Off3, and_true] at off
          k_steps
          (with_reducible rename Fr _ _ _ _ => kF; with_reducible rename News _ _ _ _ => kN)
          exact ⟨drawK_end kF kN rfl off' hi1 hr1 (by assumption) (by assumption) hk0 hk⟩
        · rintro ys news ⟨k, t, ns', rfl, hi1, hr1, hk0, hk⟩ hl D h1 tk1 kF kN o1
          simp only [LCg.Off1, and_true] at o1
          have hsz := hi1.length
          have hsb : (byteArr ns').size ≤ 20 := by rw [byteArr_size]; omega
          refine ⟨bytearray_C (l := D) ⟨_, (kN _ (.head _)).1, rfl, _, rfl⟩ hi1 hr1 (by rw [sizeLine_eq]; omega) fun h2 sa c2 f2 sz2 g2 => ?_⟩
          obtain ⟨kN2, ne2⟩ := new_of kF kN c2 f2 g2
          have kF2 := fr_nil kF c2
          replace kN2 : News s.heap L h2 [(sa, ba (byteArr ns'))] := fun p hp => kN2 p (by rcases List.mem_cons.mp hp with rfl | hp; exact .head _; exact nomatch hp)
          generalize byteArr ns' = sb at *
          clear c2 f2 sz2 g2 ne2 kN kF o1 hi1 hr1
          k_steps
          refine ⟨wpC_execs_cons (forC ?_)⟩
          k_steps
          (with_reducible rename Fr _ _ _ _ => kF; with_reducible rename News _ _ _ _ => kN)
          rw [show Builtin.Range.rangeSize 0 ((sb.size : Int) + 1) 1 = ((sb.size + 1 : Nat) : Int) - ((0 : Nat) : Int) from by rw [rsize (by omega)]; omega] at kN
          refine ⟨loopC (atI s s.heap L sa _ sb) (sb.size + 1) ⟨_, _, 0, _, by omega, by omega, rfl, kF, kN⟩ (fun n s' hI => ?_)⟩
          obtain ⟨h3, tk3, i, M, hn, hi5, rfl, kF, kN⟩ := hI
          by_cases h10 : i < sb.size + 1
          · refine range_next_N kF kN (.head (by k_all)) (by omega) fun h4 t4 tk4 kF kN => ?_
            dsimp only
            k_steps
            refine ⟨stA ?_⟩
            cases hq : readR sb i with
            | few =>
              k_steps
              all_goals (try dsimp only)
              (with_reducible rename Fr _ _ _ _ => kF; with_reducible rename News _ _ _ _ => kN)
              refine ⟨wpC_of_any (wpAny_execs_nil ?_)⟩
              exact at_step hn h10 kF rfl kN (by k_mem) (by k_mem)
            | far =>
              k_steps
              all_goals (try dsimp only)
              (with_reducible rename Fr _ _ _ _ => kF; with_reducible rename News _ _ _ _ => kN)
              refine ⟨wpC_of_any (wpAny_execs_nil ?_)⟩
              exact at_step hn h10 kF rfl kN (by k_mem) (by k_mem)
            | num x e =>
              k_steps
              all_goals (try dsimp only)
              (with_reducible rename Fr _ _ _ _ => kF; with_reducible rename News _ _ _ _ => kN)
              refine ⟨wpC_of_any (wpAny_execs_nil ?_)⟩
              exact at_step hn h10 kF rfl kN (by k_mem) (by k_mem)
          · refine range_end_N (by rfl) kF kN (by k_all) (by omega) fun h4 kF kN => ?_
            dsimp only
            refine stA ?_
            k_steps
            exact h _ _ fun b o e n => kF.keep _ _ e
end Vi
namespace Vi
open PySem PySem.W PySem.Calls PyProof.Rows
open Mine (wpC codeC wpC_of_any codeC_of_any wpC_pure wpC_mono wpC_bind wpC_bindA wpC_call codeC_mono)
theorem fillH : PySem.Challenge.rw_je0012_01 = PySem.Challenge.rw_je0012_01 ∧ Mine.hd.heap_39 = Mine.hd.heap_39 := by w_top off; k_fill; exact ⟨rfl, rfl⟩
set_option maxHeartbeats 4000000 in
theorem all : PySem.Challenge.rw_je0012_01.Holds := by
  refine Mine.hd ?_
  intro w s₀ s₁ mg mb G Y fa o pm cd doc dV kV ho hd hcd hD hmg hg args vals as hpre hlay hrd hwl hlo
  have KX := kIn_of Y
  have X := (Ground.X G).1
  have V := (Ground.X G).2
  refine Ground.open G ?_
  intro T B D TE TW
  try (refine guard_noD D (by decide +kernel) ?_; clear D)
  wrow_args hpre hlay hrd hwl hlo
  obtain rfl : fa = 76 := by
    have e := mg_of (n := "law") (v := .ref 76) KX T.g (by k_is)
    have e' := hmg.symm.trans e
    cases e'
    rfl
  clear hd hcd hD hmg G Y
  refine wpC_call (codeC_mono (law_spec KX T (by assumption) (by assumption) (by omega) (R := fun r s' => r = .ok (.ret (.bool true)) ∧ ∃ h' tk, Chg [] s₁.heap h' ∧ s' = { s₁ with heap := h', toks := tk }) (fun h' tk c => ⟨rfl, h', tk, c, rfl⟩)) (fun r s' hr => ?_))
  obtain ⟨rfl, h', tk, c, rfl⟩ := hr
  show GoodWG _ _ _ _ _ _ _
  have hpost : ∀ l : List Int, PySem.Challenge.rw_je0012_01.row.claim.post [ofPy (PyData.list (List.map PyData.int l))] (WData.bool true) [ofPy (PyData.list (List.map PyData.int l))] = true := by
    intro l
    first
      | (with_unfolding_all rfl)
      | kernel_rfl
      | (dsimp only [OpenRow.claim, OpenRow.toRowW, RowW.claim, OpenLaw.row]; trace_state; rfl)
      | (unfold OpenRow.claim RowW.claim; trace_state; rfl)
  exact ⟨.inl ⟨.bool true, .bool true, [], rfl, fun _ => rfl, .bool _, hpost _, fun _ => ⟨List.nodup_nil, fun _ z => absurd z List.not_mem_nil⟩⟩, .of_keep (fun b o e => c b o e List.not_mem_nil), rfl, .of_eq hg⟩
end Vi
theorem PySem.Challenge.cw_je0012_01_holds : PySem.Challenge.rw_je0012_01.Holds := by
  exact Vi.all
