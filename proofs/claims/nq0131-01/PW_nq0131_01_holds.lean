import PyProof.Rows.All
import Wide.All
import OpenK.AllK
import Wide.FinOn
import Lean
import PySem.Challenge.RW_nq0131_01
set_option Elab.async false
set_option linter.unusedVariables false
section
open PySem PySem.W PyProof.Rows
open PySem.Sem (wp)
set_option maxRecDepth 100000
namespace Mine
/-- codes that hold a bytearray while they run -/
def holdIds : List String := ["bytearray.__contains__", "bytearray.__mod__", "bytearray.__rmod__", "_struct.pack_into.held", "bytearray.find.held"] ++ Builtin.Bytes.decodersThatHold
def holdsNone : Code → Bool
  | .builtin id _ => !holdIds.contains id
  | _ => true
def Clean (Γ : Ctx) : Prop := holdsNone Γ.code = true ∧ ∀ x ∈ Γ.below, holdsNone x.1 = true
/-- as wpAny, in a context where nothing holds a bytearray -/
def wpC {α : Type} (M : Model) (A : Around) (t : Sem α) (Q : α → Shared → Prop) (E : Value → Shared → Prop) (s : Shared) : Prop :=
  ∀ Γ p, Γ.In A → Clean Γ → wp M Γ t (fun a _ s' => Q a s') (fun e _ s' => E e s') p s
abbrev callerΓ : Ctx := ⟨.builtin "claim.caller" {}, none, none, [], none⟩
theorem caller_clean : Clean callerΓ := ⟨by decide +kernel, fun _ h => nomatch h⟩
/-- the library's head for an open row, from the call in the caller's own context -/
theorem callFromC {c : ClaimW} {name : Str} {w : World} {s : Shared} {free : Addr → Prop} {gens : Prop} {kept : Heap → Prop} (hz : s.asleep) (hgens : s.gens = #[])
    (hspec : ∀ args, c.pre args = true → WData.layableAll args = true → ∀ ord : List DictEntry → List DictEntry, (∀ l, (ord l).Perm l) →
      ∃ vs s₁ mg f, layAllW c.records (classAt s.heap) w.params ord args s = some (vs, s₁) ∧ s₁.heap.Ns mainGlobals mg ∧ mg name = some f ∧
        wpC (model c.prog w) callerA (PySem.call f vs) (fun v s' => c.Ends s args vs s₁ (.ok (.ret v)) s' ∧ s'.os = s.os ∧ AllBare s'.gens ∧ kept s'.heap)
          (fun e s' => c.Ends s args vs s₁ (.error e) s' ∧ s'.os = s.os ∧ AllBare s'.gens ∧ kept s'.heap) s₁) :
    c.CallFrom (callStub name) w free gens kept s := by
  intro args hpre hlay ord hord
  obtain ⟨vs, s₁, mg, f, hlaid, hmg, hf, hcode⟩ := hspec args hpre hlay ord hord
  have hal := layAllW_rest _ _ _ hlaid
  have hasleep : s₁.asleep := Shared.asleep_of_life hal.2.2.2 hz
  let R : Result → Shared → Prop := fun r s' => c.Ends s args vs s₁ r s' ∧ s'.os = s.os ∧ kept s'.heap
  have hwp : wp (model c.prog w) callerΓ (callStub name vs).cur (Sem.finPost (model c.prog w) callerΓ fun r s' => R r s' ∧ leftWithCleanup s'.gens = false)
      (fun e _ s' => R (.error e) s' ∧ leftWithCleanup s'.gens = false) default s₁ := by
    show wp (model c.prog w) callerΓ (nsGet mainNs name >>= _) _ _ default s₁
    rw [Sem.wp_bind']
    refine (Sem.wp_nsGet (model c.prog w) callerΓ _ default s₁ hmg name _).mpr ?_
    rw [hf]
    show wp (model c.prog w) callerΓ (PySem.call f vs >>= fun v => ret v) _ _ default s₁
    rw [Sem.wp_bind']
    refine Sem.wp_mono _ _ _ (fun v p' s' h' => ?_) (fun e p' s' h' => ?_) _ _ (hcode callerΓ default caller_in caller_clean)
    · exact ⟨⟨h'.1, h'.2.1, h'.2.2.2⟩, leftWithCleanup_false_of_bare h'.2.2.1⟩
    · exact ⟨⟨h'.1, h'.2.1, h'.2.2.2⟩, leftWithCleanup_false_of_bare h'.2.2.1⟩
  obtain ⟨k, r, s'', s', hsched, hrun, hfo, hcase, hos, hkp⟩ := wp_halts_full (M := model c.prog w) (R := R) hasleep hwp
  obtain ⟨eh, _, _, eo, _⟩ := Shared.forget_eq hfo
  have hcase := hcase.congr eh
  rw [← eh] at hkp
  rw [← eo] at hos
  have hlife : s'.heap.life = s.heap.life := (runN_life _ _ _ hrun).trans hal.2.2.2
  refine ⟨vs, s₁, hlaid, k, _, s', hsched, ?_, (fun _ i x hx => by rw [hgens] at hx; simp at hx), hkp, by rw [hlife], Shared.rest_eq hos⟩
  rcases hcase with ⟨v, rfl, d1, d2, d3, d4, d5⟩ | ⟨e, ob, cls, rfl, d1, d2, d3, d4, d5⟩
  · exact .inl ⟨v, rfl, d1, d2, d3, fun b o y _ => d4 b o y, d5⟩
  · exact .inr ⟨e, ob, cls, rfl, d1, d2, d3, d4, fun b o y _ => d5 b o y⟩
/-- as the library's LeftO, under a name of its own: so the head is proved at once, not in pieces -/
abbrev Left2 (p q : Program) (loose : List Str) (Xt : Shared → Bool) {α : Type} (Yf : Shared → α) (Ya : World → α) (N : Nat) : Prop := LeftO p q loose Xt Yf Ya N
theorem PySem.W.holds_open {r : OpenRow} {q : Program} {loose : List Str} {Xt : Shared → Bool} {XP : (Str → Option Value) → Heap → Prop} {α : Type} {Yf : Shared → α} {Ya : World → α} {YP : World → Heap → Prop} {d : DefRec} {kwd : List (Str × Expr)} {N : Nat}
    (left2 : Left2 r.prog q loose Xt Yf Ya N) (hY : ∀ w s, Yf s = Ya w → YP w s.heap) (hYk : ∀ w h h', YP w h → (∀ b o, h.get? b = some o → h'.get? b = some o) → YP w h')
    (hX : ∀ s, Xt s = true → XP (s.heap.nsMap mainGlobals) s.heap) (hXk : ∀ mg h h', XP mg h → (∀ b o, h.get? b = some o → h'.get? b = some o) → XP mg h')
    (hdef : defOf q r.name = some (d, kwd)) (hp : r.prog.theDef r.name = some (d.params, d.body, d.scope)) (hk : kwWritten? d.params.kwonlyargs d.params.kw_defaults = some kwd) (hRf : ∀ s, Xt s = true → RecFacts r.records s.heap) (hwr : (!r.writes || r.records.isEmpty) = true)
    (k1 : r.wellSaid = true) (ok : (chainsOk q && opensWell r.prog && (frees r.toRowW && r.within.isEmpty)) = true) (hb : r.prog.bare) (hw : r.toRowW.promised)
    (call : ∀ (w : World) (s₀ s₁ : Shared) (mg mb : Str → Option Value), Ground q loose r.records XP w s₀ mg mb s₁.heap → YP w s₁.heap → ∀ (a : Addr) (o : Obj) (pm cd doc dV kV : Value), s₁.heap.get? a = some o →
      o.data = .func { Calls.docDef d.name d.params d.body d.scope pm cd doc with defaults := dV, kwdefaults := kV } → s₁.heap.CodeRec cd d.name → Dflts mg s₁.heap d.params kwd dV kV → mg d.name = some (.ref a) → s₁.gens = #[] →
      ∀ (args : List WData) (vals : List Value) (as : List Addr), r.claim.pre args = true → WData.layableAll args = true → ReadsAllW r.records (classAt s₀.heap) s₁.heap vals args as → WellAll w.params s₁.heap vals args → (∀ a ∈ as, (a == sysModules) = false) →
      wpC (model r.prog w) callerA (PySem.call (.ref a) vals) (fun v s' => GoodWG r.claim (classAt s₀.heap) (ExcName.means s₀.heap) args s₁ (.ok (.ret v)) s')
        (fun e s' => GoodWG r.claim (classAt s₀.heap) (ExcName.means s₀.heap) args s₁ (.error e) s') s₁) : r.Holds := by
  have left : LeftO r.prog q loose Xt Yf Ya N := left2
  obtain ⟨ok1, k5⟩ := Bool.and_eq_true_iff.mp ok
  obtain ⟨hch, o1⟩ := Bool.and_eq_true_iff.mp ok1
  obtain ⟨k5, k6⟩ := Bool.and_eq_true_iff.mp k5
  obtain ⟨hsame, hu, ha, hap, hm⟩ := frees_parts k5
  refine ⟨k1, hw, ⟨hb, o1, by show r.makers.map _ = []; rw [hm]; rfl⟩, hw.witness, fun w => ⟨(left.behind hX hch w).1, fun s' hs' => ?_⟩⟩
  obtain ⟨s₀, hf, hg0, s, hT, hz, hgens, hg, G00, y⟩ := (left.behind (XP := fun mg h => XP mg h ∧ RecFacts r.records h) (fun s hs => ⟨hX s hs, hRf s hs⟩) hch w).2 s' hs'
  have G0 : Ground q loose [] XP w s (s.heap.nsMap mainGlobals) (s.heap.nsMap builtinsNs) s.heap := ⟨G00.T, G00.B, G00.D, G00.TE, G00.TD, G00.W, G00.X.1, G00.cls, G00.has, G00.apart, G00.once, G00.K⟩
  have RF := G00.X.2
  refine ⟨s₀, hf, hg0, s, hT, fun n hn => ?_, RF.1, RF.2.1, ?_⟩
  · obtain rfl : n = r.name := by split at hn <;> simp_all
    exact pinned_of_view hg G0 hdef hp hk
  have hgens : s.gens = #[] := Array.eq_empty_of_size_eq_zero (beq_iff_eq.mp hgens)
  have G : Ground q loose r.records XP w s _ _ s.heap := RF.ground G0
  refine callFromC (c := r.claim) hz hgens fun args hpre hlay ord hord => ?_
  obtain ⟨⟨vs, s₁⟩, hlaid⟩ := Option.isSome_iff_exists.mp (layAllW_isSome (P := w.params) (ord := ord) G.has args r.args s (pre_splitW hpre).1)
  have keeps := layAllW_keeps _ _ _ hlaid
  have hal := layAllW_rest _ _ _ hlaid
  obtain ⟨as, hrd, hin, hold⟩ := reads_layAllW hord _ _ _ hlaid hlay s₁.heap (fun _ _ e => e)
  have L : Laid r.records w s s₁ args vs as := ⟨⟨ord, hord, hlaid⟩, hrd, hin, hold, keeps, hal.1.trans hgens, hal.2.2.1⟩
  have G₁ := G.keeps hXk keeps
  have hi := ident_freeW hu ha hap
  have hwi : r.claim.within = [] := List.isEmpty_iff.mp k6
  obtain ⟨a, o, pm, cd, doc, dV, kV, h1, h2, h3, h4, h5⟩ := G₁.fn hdef
  have hn := defOf_name hdef
  have h := call w s s₁ _ _ G₁ (hYk _ _ _ (hY w s y) keeps) a o pm cd doc dV kV h2 h3 h4 h5 (hn ▸ h1) L.gens args vs as hpre hlay L.reads L.well (L.low G.low)
  refine ⟨vs, s₁, _, _, hlaid, G₁.T.g, h1, fun Γ p hΓ hc => Sem.wp_mono _ _ _ (fun v _ s' g => ?_) (fun e _ s' g => ?_) _ _ (h Γ p hΓ hc)⟩
  · have z := g.laid (c := r.claim) hsame hwi hi L
    exact ⟨z.1, z.2.1, z.2.2, fun q => ⟨namesKept_of hT hg _ keeps g.2.1.old, noTable hwr q⟩⟩
  · have z := g.laid (c := r.claim) hsame hwi hi L
    exact ⟨z.1, z.2.1, z.2.2, fun q => ⟨namesKept_of hT hg _ keeps g.2.1.old, noTable hwr q⟩⟩
end Mine
end
section
open PySem PySem.W PyProof.Rows
set_option maxRecDepth 100000
namespace Mine
set_option maxHeartbeats 8000000 in
open_top hd for PySem.Challenge.rw_nq0131_01
end Mine
end
section
open PySem PySem.W PyProof.Rows
set_option maxRecDepth 100000
namespace Mine
abbrev Pr : Program := PySem.Challenge.rw_nq0131_01.row.prog
abbrev Keeps (h h' : Heap) : Prop := ∀ b o, h.get? b = some o → h'.get? b = some o
abbrev TopM (mean : ExcName → Option Value) (mg mb : Str → Option Value) (h : Heap) : Prop := Top hd.view_39 (looseW hd.view_39 []) mean mg mb h
abbrev St (s : Shared) (h : Heap) (tk : Nat) : Shared := { s with heap := h, toks := tk }
structure Room (k : Nat) (A : Around) : Prop where
  hh : A.handled = none
  dp : A.depth + k ≤ 900
  un : A.units + 100 * k ≤ 9000
theorem Room.deeper {k : Nat} {A : Around} {env : Env} (R : Room (k + 1) A) : Room k (A.deeper env) :=
  ⟨R.hh, by have := R.dp; show A.depth + 1 + k ≤ 900; omega, by have := R.un; show A.units + 3 + 100 * k ≤ 9000; omega⟩
theorem Room.mono {k k' : Nat} {A : Around} (R : Room k A) (h : k' ≤ k) : Room k' A :=
  ⟨R.hh, by have := R.dp; omega, by have := R.un; omega⟩
theorem Room.units {k : Nat} {A : Around} (R : Room k A) : A.units < cLine := by have := R.un; rw [cLine_is]; omega
/-- the frame: known locals l, own objects mu -/
structure Sx (h₀ : Heap) (L : Addr) (l : List (Str × Value)) (mu : List (Addr × Obj)) (h : Heap) : Prop where
  fr : ∃ m, Fr h₀ L h m ∧ ∀ x v, l.lookup x = some v → m x = some v
  nw : News h₀ L h mu
  nd : (mu.map (·.1)).Nodup
theorem Sx.keep {h₀ h : Heap} {L l mu} (S : Sx h₀ L l mu h) : Keeps h₀ h := let ⟨_, F, _⟩ := S.fr; F.keep
theorem Sx.get {h₀ h : Heap} {L l mu} {a : Addr} {o : Obj} (S : Sx h₀ L l mu h) (hm : (a, o) ∈ mu) : h.get? a = some o := (S.nw _ hm).1
theorem Sx.grow {h₀ h h' : Heap} {L l mu} (S : Sx h₀ L l mu h) (k : Keeps h h') : Sx h₀ L l mu h' := by
  obtain ⟨m, F, hl⟩ := S.fr
  exact ⟨⟨m, ⟨F.ns.keeps k, fun b o e => k b o (F.keep b o e), F.above⟩, hl⟩, fun p hp => ⟨k _ _ (S.nw p hp).1, (S.nw p hp).2⟩, S.nd⟩
theorem Sx.sub {h₀ h : Heap} {L l mu} {l' : List (Str × Value)} (S : Sx h₀ L l mu h) (hs : ∀ p ∈ l', l.lookup p.1 = some p.2) : Sx h₀ L l' mu h := by
  obtain ⟨m, F, hl⟩ := S.fr
  refine ⟨⟨m, F, fun x v e => ?_⟩, S.nw, S.nd⟩
  have : (x, v) ∈ l' := by
    clear hs
    induction l' with
    | nil => cases e
    | cons p r ih =>
      obtain ⟨y, u⟩ := p
      rw [List.lookup_cons] at e
      by_cases hx : (x == y) = true
      · rw [hx] at e; cases e; rw [eq_of_beq hx]; exact .head _
      · have hx' : (x == y) = false := by simpa using hx
        rw [hx'] at e; exact .tail _ (ih e)
  exact hl x v (hs _ this)
theorem Sx.drop {h₀ h : Heap} {L l mu} {mu' : List (Addr × Obj)} (S : Sx h₀ L l mu h) (hs : mu'.Sublist mu) : Sx h₀ L l mu' h :=
  ⟨S.fr, fun p hp => S.nw p (hs.subset hp), S.nd.sublist (hs.map _)⟩
theorem Sx.perm {h₀ h : Heap} {L l mu} {mu' : List (Addr × Obj)} (S : Sx h₀ L l mu h) (hs : mu'.Perm mu) : Sx h₀ L l mu' h :=
  ⟨S.fr, fun p hp => S.nw p (hs.subset hp), (hs.map _).nodup_iff.mpr S.nd⟩
theorem Sx.push {h₀ h : Heap} {L l mu} (S : Sx h₀ L l mu h) (o : Obj) (hf : o.isFreed = false := by rfl) : Sx h₀ L l ((h.objs.size, o) :: mu) (h.push o) := by
  obtain ⟨m, F, hl⟩ := S.fr
  refine ⟨⟨m, F.push o, hl⟩, News.push F S.nw o hf, ?_⟩
  refine List.nodup_cons.mpr ⟨fun hm => ?_, S.nd⟩
  obtain ⟨p, hp, e⟩ := List.mem_map.mp hm
  exact absurd (Heap.lt_size (S.nw p hp).1) (by rw [e]; exact Nat.lt_irrefl _)
/-- new objects that a callee made -/
theorem Sx.add {h₀ h h' : Heap} {L l mu} {ob : List (Addr × Obj)} (S : Sx h₀ L l mu h) (k : Keeps h h') (hn : ∀ p ∈ ob, h'.get? p.1 = some p.2 ∧ h.get? p.1 = none) (hd : (ob.map (·.1)).Nodup) : Sx h₀ L l (ob ++ mu) h' := by
  obtain ⟨m, F, hl⟩ := (S.grow k).fr
  refine ⟨⟨m, F, hl⟩, fun p hp => ?_, ?_⟩
  · rcases List.mem_append.mp hp with hp | hp
    · refine ⟨(hn p hp).1, fun e => ?_, ?_⟩
      · obtain ⟨m', F', _⟩ := S.fr
        obtain ⟨_, _, _, ho, _⟩ := F'.ns
        rw [← e, (hn p hp).2] at ho; cases ho
      · cases e : h₀.get? p.1 with
        | none => rfl
        | some o => have := S.keep _ _ e; rw [(hn p hp).2] at this; cases this
    · exact (S.grow k).nw p hp
  · rw [List.map_append]
    refine List.nodup_append.mpr ⟨hd, S.nd, fun a ha b hb e => ?_⟩
    obtain ⟨p, hp, rfl⟩ := List.mem_map.mp ha
    obtain ⟨q, hq, rfl⟩ := List.mem_map.mp hb
    have := (S.nw q hq).1
    rw [← e, (hn p hp).2] at this; cases this
theorem Sx.store {h₀ h h' : Heap} {L l mu} {x : Str} {v : Value} {m : Str → Option Value} (S : Sx h₀ L l mu h) (F : Fr h₀ L h m) (hl : ∀ x v, l.lookup x = some v → m x = some v)
    (hn : h'.Ns L (fun y => if y = x then some v else m y)) (hs : Heap.SameBut L h h') : Sx h₀ L ((x, v) :: l) mu h' := by
  refine ⟨⟨_, F.set hn hs, fun y u e => ?_⟩, S.nw.set hs, S.nd⟩
  rw [List.lookup_cons] at e
  by_cases hx : (y == x) = true
  · rw [hx] at e; cases e; rw [eq_of_beq hx]; simp
  · have hx' : (y == x) = false := by simpa using hx
    rw [hx'] at e
    have : y ≠ x := fun q => hx (by simp [q])
    simp [this, hl y u e]
/-- the first object of the ledger changed -/
theorem Sx.upd {h₀ h h' : Heap} {L l mu} {d : Addr} {o o' : Obj} (S : Sx h₀ L l ((d, o) :: mu) h) (hs : Heap.SameBut d h h') (ho : h'.get? d = some o') : Sx h₀ L l ((d, o') :: mu) h' := by
  obtain ⟨m, F, hl⟩ := S.fr
  have D := S.nw (d, o) (.head _)
  obtain ⟨oL, es, ep, hL, r⟩ := F.ns
  have hne : ∀ p ∈ mu, p.1 ≠ d := fun p hp e => (List.nodup_cons.mp S.nd).1 (e ▸ List.mem_map_of_mem (f := (·.1)) hp)
  refine ⟨⟨m, ⟨⟨oL, es, ep, (hs.2 L (Ne.symm D.2.1)).trans hL, r⟩, fun b x q => (hs.2 b fun z => ?_).trans (F.keep b x q), F.above⟩, hl⟩, fun p hp => ?_, S.nd⟩
  · have := D.2.2; rw [← z, q] at this; cases this
  · rcases List.mem_cons.mp hp with rfl | hp
    · exact ⟨ho, D.2⟩
    · have P := S.nw p (.tail _ hp); exact ⟨(hs.2 _ (hne p hp)).trans P.1, P.2⟩
def nodupB : List Str → Bool
  | [] => true
  | x :: r => !(r.contains x) && nodupB r
theorem nodup_of : ∀ {l : List Str}, nodupB l = true → l.Nodup
  | [], _ => List.nodup_nil
  | x :: r, h => by
    simp only [nodupB, Bool.and_eq_true, Bool.not_eq_true'] at h
    exact List.nodup_cons.mpr ⟨fun hm => by simp [hm] at h, nodup_of h.2⟩
def RetQ (Q : Value → Shared → Prop) (fl : Flow) (s : Shared) : Prop := Q (match fl with | .ret v => v | _ => .none) s
theorem r_retQ {v : Value} {s : Shared} {Q : Value → Shared → Prop} (k : Q v s) : RetQ Q (.ret v) s := k
theorem r_retN {s : Shared} {Q : Value → Shared → Prop} (k : Q .none s) : RetQ Q .next s := k
theorem lookup_rev : ∀ (l : List (Str × Value)), (l.map (·.1)).Nodup → ∀ x v, l.lookup x = some v → l.reverse.lookup x = some v
  | [], _, _, _, e => by cases e
  | (y, u) :: r, hn, x, v, e => by
    have hn' := List.nodup_cons.mp hn
    rw [List.reverse_cons, List.lookup_append]
    rw [List.lookup_cons] at e
    by_cases hx : (x == y) = true
    · rw [hx] at e
      have : r.reverse.lookup x = none := by
        rw [List.lookup_eq_none_iff]
        intro p hp
        cases hq : (x == p.1) with
        | false => simp [bne, hq]
        | true =>
          exfalso
          apply hn'.1
          rw [← eq_of_beq hx, eq_of_beq hq]
          exact List.mem_map_of_mem (f := (·.1)) (List.mem_reverse.mp hp)
      rw [this]
      simp [List.lookup_cons, hx]; simpa using e
    · have hx' : (x == y) = false := by simpa using hx
      rw [hx'] at e
      rw [lookup_rev r hn'.2 x v e]; rfl
theorem enter {w : World} {A : Around} {s : Shared} {h : Heap} {tk : Nat} {mean : ExcName → Option Value} {mg mb : Str → Option Value} {k : Nat}
    {name qual : Str} {params : Arguments} {body : List Stmt} {scope : Scope} {dV kV doc pm cdv ct oc : Value} {an od : Option Addr} {osl : Array (Option Value)} {f : Addr} {args : List Value} 
    {Q E : Value → Shared → Prop} (binds : List (Str × Value))
    (X : (hd.heap_39 w.params).In h) (T : TopM mean mg mb h) (R : Room (k + 1) A)
    (ho : (hd.heap_39 w.params).lookup f = some ⟨oc, od, .func (fnOf name qual params body scope dV kV doc pm an cdv ct), osl⟩) (hcd : codeIn (hd.heap_39 w.params) cdv qual = true)
    (hbind : bindArgs (fnOf name qual params body scope dV kV doc pm an cdv ct) ⟨args, []⟩ = pure binds) (hloc : ∀ y ∈ binds, scope.names.lookup y.1 = some .local) (hnd : nodupB (binds.map (·.1)) = true)
    (hh : ∀ L h₁ tk₁, Sx h L binds [] h₁ → Room k (A.deeper (envOf qual scope L f cdv)) →
      wpAny (model Pr w) (A.deeper (envOf qual scope L f cdv)) (execs body (envOf qual scope L f cdv))
        (RetQ Q) (fun _ _ => False) (St s h₁ tk₁))
    (hco : scope.isCoroutine = false) (hgen : scope.isGenerator = false) (hk : scope.kind = .function)
    (hcell : ∀ x ∈ scope.names, x.2 ≠ .cell) : wpAny (model Pr w) A (call (.ref f) args) Q E (St s h tk) := by
  refine wpAny_call ?_
  have hroom : A.depth < recursionLimit := by have := R.dp; show A.depth < 1000; omega
  refine codeAny_call_def (fd := fnOf name qual params body scope dV kV doc pm an cdv ct) (body := body) (binds := binds) hroom (X _ _ ho) rfl T.nolimit (codeRec_of X hcd) rfl (BindsTo.of_eq hbind) hcell hloc (fun h₁ hns hk₁ => ?_) hco hgen hk
  exact wpAny_mono (hh _ h₁ _ ⟨⟨_, ⟨hns, hk₁, Nat.le_refl _⟩, fun x v e => lookup_rev _ (nodup_of hnd) x v e⟩, News.nil, List.nodup_nil⟩ R.deeper) (fun _ _ x => x) (fun _ _ x => x.elim)
section
variable {M : Model} {A : Around} {E : Value → Shared → Prop} {s : Shared} {h : Heap} {tk : Nat} {env : Env}
def Fall (M : Model) (A : Around) (env : Env) (rest : List Stmt) (Q : Flow → Shared → Prop) (E : Value → Shared → Prop) (f : Flow) (s : Shared) : Prop :=
  match f with | .next => wpAny M A (execs rest env) Q E s | f => Q f s
theorem r_cons {st rest} {Q : Flow → Shared → Prop} (k : wpAny M A (exec st env) (Fall M A env rest Q E) E s) : wpAny M A (execs (st :: rest) env) Q E s := wpAny_execs_cons k
theorem r_nil {Q : Flow → Shared → Prop} (k : Q .next s) : wpAny M A (execs [] env) Q E s := wpAny_execs_nil k
theorem r_fall {rest} {Q : Flow → Shared → Prop} (k : wpAny M A (execs rest env) Q E s) : Fall M A env rest Q E .next s := k
theorem r_fallR {rest} {v : Value} {Q : Flow → Shared → Prop} (k : Q (.ret v) s) : Fall M A env rest Q E (.ret v) s := k
theorem r_int {i k pos} {Q : Value → Shared → Prop} (hq : Q (.int i tk) (St s h (tk + 1))) : wpAny M A (eval (.Constant (.int i) k pos) env) Q E (St s h tk) := wpAny_Constant_int hq
theorem r_str {x k pos} {Q : Value → Shared → Prop} (hq : Q (.str x tk) (St s h (tk + 1))) : wpAny M A (eval (.Constant (.str x) k pos) env) Q E (St s h tk) := Calls.Constant_str hq
theorem r_bool {b k pos} {Q : Value → Shared → Prop} (hq : Q (.bool b) s) : wpAny M A (eval (.Constant (.bool b) k pos) env) Q E s := wpAny_Constant_bool hq
theorem r_none {k pos} {Q : Value → Shared → Prop} (hq : Q .none s) : wpAny M A (eval (.Constant .none k pos) env) Q E s := wpAny_Constant_none hq
theorem r_local {h₀ : Heap} {L l mu} {x : Str} {pos : Pos} {v : Value} {Q : Value → Shared → Prop} (S : Sx h₀ L l mu h) (hv : l.lookup x = some v) (hL : env.locals = L) (hk : env.scope.kind = .function) (hl : env.kindOf x = some .local)
    (hd : (x == ("__debug__" : Str)) = false) (hq : Q v (St s h tk)) : wpAny M A (eval (.Name x pos) env) Q E (St s h tk) := by
  subst hL
  obtain ⟨m, F, hm⟩ := S.fr
  exact wpAny_Name (wpAny_loadName_local hk hl F.ns (hm _ _ hv) hq) hd
theorem r_localn {h₀ : Heap} {L l mu} {x : Str} {v : Value} {Q : Value → Shared → Prop} (S : Sx h₀ L l mu h) (hv : l.lookup x = some v) (hL : env.locals = L) (hk : env.scope.kind = .function) (hl : env.kindOf x = some .local)
    (hq : Q v (St s h tk)) : wpAny M A (loadName env x) Q E (St s h tk) := by
  subst hL
  obtain ⟨m, F, hm⟩ := S.fr
  exact wpAny_loadName_local hk hl F.ns (hm _ _ hv) hq
theorem r_store {h₀ : Heap} {L l mu} {x : Str} {v : Value} {Q : Unit → Shared → Prop} (S : Sx h₀ L l mu h) (hL : env.locals = L) (hk : env.scope.kind = .function) (hl : env.kindOf x = some .local)
    (hq : ∀ h' tk', Sx h₀ L ((x, v) :: l) mu h' → Q () (St s h' tk')) : wpAny M A (storeName env x v) Q E (St s h tk) := by
  subst hL
  obtain ⟨m, F, hm⟩ := S.fr
  exact wpAny_storeName_local hl F.ns (fun h' hn hs => hq h' _ (S.store F hm hn hs)) (by rw [hk]; rfl)
theorem r_glob {w : World} {mean : ExcName → Option Value} {mg mb : Str → Option Value} {h₀ : Heap} {L l mu} {x : Str} {pos : Pos} {v : Value} {Q : Value → Shared → Prop} (S : Sx h₀ L l mu h) (X : (hd.heap_39 w.params).In h₀) (T : TopM mean mg mb h₀)
    (e : nsIn (hd.heap_39 w.params) mainGlobals x = some (some v)) (hk : env.scope.kind = .function) (hl : env.kindOf x = some .globalImplicit) (hg : env.globals = mainGlobals)
    (hd : (x == ("__debug__" : Str)) = false) (hq : Q v (St s h tk)) : wpAny M A (eval (.Name x pos) env) Q E (St s h tk) :=
  Calls.Name_function_global hk hl (Calls.loadGlobal_global (env := env) (show h.Ns env.globals mg from hg ▸ (T.keeps S.keep).g) (mg_of X T.g e) hq) hd
theorem r_globB {w : World} {mean : ExcName → Option Value} {mg mb : Str → Option Value} {h₀ : Heap} {L l mu} {x : Str} {pos : Pos} {v : Value} {Q : Value → Shared → Prop} (S : Sx h₀ L l mu h) (X : (hd.heap_39 w.params).In h₀) (T : TopM mean mg mb h₀)
    (e : nsIn (hd.heap_39 w.params) mainGlobals x = some none) (hv : bootBuiltins x = some v) (hn : x ≠ "__name__") (hk : env.scope.kind = .function) (hl : env.kindOf x = some .globalImplicit) (hg : env.globals = mainGlobals) (hb : env.builtins = builtinsNs)
    (hd : (x == ("__debug__" : Str)) = false) (hq : Q v (St s h tk)) : wpAny M A (eval (.Name x pos) env) Q E (St s h tk) :=
  Calls.Name_function_global hk hl (Calls.loadGlobal_builtin (env := env) (show h.Ns env.globals mg from hg ▸ (T.keeps S.keep).g) (mg_none_of X T.g e) (show h.Ns env.builtins mb from hb ▸ (T.keeps S.keep).b) ((T.builtins x hn).trans hv) hq) hd
theorem r_kin {w : World} {h₀ : Heap} {L l mu} {P : Prop} (S : Sx h₀ L l mu h) (X : (hd.heap_39 w.params).In h₀) (k : P) : (hd.heap_39 w.params).In (St s h tk).heap ∧ P := ⟨X.keeps S.keep, k⟩
end
section
variable {prog : Program} {w : World} {A : Around} {E : Value → Shared → Prop} {s : Shared} {h : Heap} {tk : Nat} {env : Env} {a b : Int} {t u : Tok} {Q : Value → Shared → Prop}
theorem o_add (hq : Q (.int (a + b) tk) (St s h (tk + 1))) : wpAny (model prog w) A (binaryOp .Add (.int a t) (.int b u)) Q E (St s h tk) := add_int hq
theorem o_iadd (hq : Q (.int (a + b) tk) (St s h (tk + 1))) : wpAny (model prog w) A (inplaceOp .Add (.int a t) (.int b u)) Q E (St s h tk) := iadd_int hq
theorem o_sub (hq : Q (.int (a - b) tk) (St s h (tk + 1))) : wpAny (model prog w) A (binaryOp .Sub (.int a t) (.int b u)) Q E (St s h tk) := sub_int hq
theorem o_mul (hm : IntMulOk a b) (hq : Q (.int (a * b) tk) (St s h (tk + 1))) : wpAny (model prog w) A (binaryOp .Mult (.int a t) (.int b u)) Q E (St s h tk) := mul_int hq hm
theorem o_mod (hb : b ≠ 0) (hq : Q (.int (a.fmod b) tk) (St s h (tk + 1))) : wpAny (model prog w) A (binaryOp .Mod (.int a t) (.int b u)) Q E (St s h tk) := mod_int hb hq
theorem o_neg (hq : Q (.int (-a) tk) (St s h (tk + 1))) : wpAny (model prog w) A (unaryOp .USub (.int a t)) Q E (St s h tk) := neg_int hq
end
section
variable {prog : Program} {w : World} {A : Around} {E : Value → Shared → Prop} {s : Shared} {h : Heap} {tk : Nat} {env : Env} {a b : Int} {t u : Tok} {Q : Value → Shared → Prop}
theorem o_div (hb : b ≠ 0) (hs : b.natAbs < 1073741824) (hq : Q (.int (a.fdiv b) tk) (St s h (tk + 1))) : wpAny (model prog w) A (binaryOp .FloorDiv (.int a t) (.int b u)) Q E (St s h tk) := floordiv_int hb hq (.inl (PyProof.noPylong_small hs))
theorem o_idiv (hb : b ≠ 0) (hs : b.natAbs < 1073741824) (hq : Q (.int (a.fdiv b) tk) (St s h (tk + 1))) : wpAny (model prog w) A (inplaceOp .FloorDiv (.int a t) (.int b u)) Q E (St s h tk) := ifloordiv_int hb hq (.inl (PyProof.noPylong_small hs))
end
theorem c_dec {p : Prop} [Decidable p] {X Y : Prop} (h1 : p → X) (h2 : ¬p → Y) : if decide p = true then X else Y := by
  by_cases h : p <;> simp [h, h1, h2]
theorem c_eqI {a b : Int} {X Y : Prop} (h1 : a = b → X) (h2 : a ≠ b → Y) : if (a == b) = true then X else Y := by
  by_cases h : a = b <;> simp [h, h1, h2]
theorem c_neI {a b : Int} {X Y : Prop} (h1 : a ≠ b → X) (h2 : a = b → Y) : if (a != b) = true then X else Y := by
  by_cases h : a = b <;> simp [h, h1, h2]
theorem c_tt {X Y : Prop} (h : X) : if true = true then X else Y := by simpa using h
theorem c_ff {X Y : Prop} (h : Y) : if false = true then X else Y := by simpa using h
theorem c_b {b : Bool} {X Y : Prop} (h1 : b = true → X) (h2 : b = false → Y) : if b = true then X else Y := by
  cases b <;> simp [h1, h2]
theorem q_int {a b : Int} {t : Tok} {s : Shared} {Q : Value → Shared → Prop} (e : a = b) (k : Q (.int a t) s) : Q (.int b t) s := e ▸ k
theorem fill : hd.heap_39 = hd.heap_39 ∧ PySem.Challenge.rw_nq0131_01.prog = PySem.Challenge.rw_nq0131_01.prog := by
  k_fill
  exact ⟨rfl, rfl⟩
end Mine
end
section
open PySem PySem.W PyProof.Rows
set_option maxRecDepth 100000
namespace Mine
/-- changed at d alone -/
theorem Sx.off {h₀ h h' : Heap} {L l mu} {d : Addr} {o : Obj} (S : Sx h₀ L l ((d, o) :: mu) h) (hs : ∀ b ob, b ≠ d → h.get? b = some ob → h'.get? b = some ob) : Sx h₀ L l mu h' := by
  obtain ⟨m, F, hl⟩ := S.fr
  have D := S.nw (d, o) (.head _)
  obtain ⟨oL, es, ep, hL, r⟩ := F.ns
  have hne : ∀ p ∈ mu, p.1 ≠ d := fun p hp e => (List.nodup_cons.mp S.nd).1 (e ▸ List.mem_map_of_mem (f := (·.1)) hp)
  refine ⟨⟨m, ⟨⟨oL, es, ep, hs L _ (Ne.symm D.2.1) hL, r⟩, fun b x q => hs b x (fun z => ?_) (F.keep b x q), F.above⟩, hl⟩, fun p hp => ?_, (List.nodup_cons.mp S.nd).2⟩
  · have := D.2.2; rw [← z, q] at this; cases this
  · have P := S.nw p (.tail _ hp); exact ⟨hs _ _ (hne p hp) P.1, P.2⟩
theorem Sx.turn {h₀ h h' : Heap} {L l mu} {d : Addr} {o o' : Obj} (S : Sx h₀ L l ((d, o) :: mu) h) (hs : ∀ b ob, b ≠ d → h.get? b = some ob → h'.get? b = some ob) (ho : h'.get? d = some o') : Sx h₀ L l ((d, o') :: mu) h' := by
  have S' := S.off hs
  refine ⟨S'.fr, fun p hp => ?_, S.nd⟩
  rcases List.mem_cons.mp hp with rfl | hp
  · exact ⟨ho, (S.nw (d, o) (.head _)).2⟩
  · exact S'.nw p hp
section
variable {prog : Program} {w : World} {A : Around} {E : Value → Shared → Prop} {s : Shared} {h : Heap} {tk : Nat} {env : Env}
/-- the end of a turn of a while -/
def Turn (I : Nat → Shared → Prop) (n : Nat) (Q : Flow → Shared → Prop) (f : Flow) (s : Shared) : Prop :=
  match f with
  | .next | .cont => ∃ m, m < n ∧ I m s
  | .brk => Q .next s
  | .ret v => Q (.ret v) s
theorem r_turn {I : Nat → Shared → Prop} {n : Nat} {Q : Flow → Shared → Prop} (m : Nat) (hm : m < n) (k : I m s) : Turn I n Q .next s := ⟨m, hm, k⟩
theorem r_turnR {I : Nat → Shared → Prop} {n : Nat} {Q : Flow → Shared → Prop} {v : Value} (k : Q (.ret v) s) : Turn I n Q (.ret v) s := k
theorem r_while {test body pos} {Q : Flow → Shared → Prop} (I : Nat → Shared → Prop) (n : Nat) (hI : I n s)
    (turn : ∀ n s, I n s → ∀ Q' : Flow → Shared → Prop, (∀ m s', m < n → I m s' → Q' .next s') → (∀ v s', Q (.ret v) s' → Q' (.ret v) s') → wpAny (model prog w) A (isTrue test env (eval test env)) (fun b s₂ => if b = true then wpAny (model prog w) A (execs body env) Q' (fun _ _ => False) s₂ else Q .next s₂) (fun _ _ => False) s) :
    wpAny (model prog w) A (exec (.While test body [] pos) env) Q E s := by
  refine wpAny_While (codeAny_whileLoop I (fun n s hI => ?_) n hI)
  refine wpAny_mono (turn n s hI (Turn I n Q) (fun m s' hm h => ⟨m, hm, h⟩) (fun v s' h => h)) (fun b s₂ hb => ?_) fun _ _ f => f.elim
  cases b with
  | true =>
    simp only [if_true] at hb ⊢
    refine wpAny_mono hb (fun f s₃ hf => ?_) fun _ _ f => f.elim
    cases f <;> exact hf
  | false =>
    simp only [Bool.false_eq_true, if_false] at hb ⊢
    exact wpAny_execs_nil hb
/-- the end of a turn of a for: frame h₀ L, iterator's entry (I, o) -/
def TurnF (s : Shared) (h₀ : Heap) (L : Addr) (J : List (Str × Value) → List (Addr × Obj) → Prop) (it : Addr × Obj) (Q : Flow → Shared → Prop) (f : Flow) (s₂ : Shared) : Prop :=
  match f with
  | .next | .cont => ∃ l mu h tk, s₂ = St s h tk ∧ J l mu ∧ Sx h₀ L l (it :: mu) h
  | .brk => Q .next s₂
  | .ret v => Q (.ret v) s₂
theorem r_turnF {h₀ : Heap} {L : Addr} {J : List (Str × Value) → List (Addr × Obj) → Prop} {it : Addr × Obj} {Q : Flow → Shared → Prop} {l mu} (S : Sx h₀ L l (it :: mu) h) (hj : J l mu) : TurnF s h₀ L J it Q .next (St s h tk) := ⟨l, mu, h, tk, rfl, hj, S⟩
theorem r_turnFR {h₀ : Heap} {L : Addr} {J : List (Str × Value) → List (Addr × Obj) → Prop} {it : Addr × Obj} {Q : Flow → Shared → Prop} {v : Value} (k : Q (.ret v) s) {s0 : Shared} : TurnF s0 h₀ L J it Q (.ret v) s := k
theorem r_forW {target body} {Q : Flow → Shared → Prop} {h₀ : Heap} {L l mu} {I : Addr} {o₀ : Obj} {fp : List Addr} {n : Nat} {P : Nat → Value → Prop} {StI : Nat → Heap → Prop} {R : Result → Shared → Prop}
    (W : Walks prog w A I fp [I] n P StI) (hst : StI 0 h) (S : Sx h₀ L l ((I, o₀) :: mu) h) (hI : ∀ i h, StI i h → ∃ o, h.get? I = some o)
    (J : Nat → List (Str × Value) → List (Addr × Obj) → Prop) (hj : J 0 l mu)
    (hfp : ∀ b ∈ fp, b = I ∨ ∃ o, ∀ i l' mu' h', J i l' mu' → Sx h₀ L l' mu' h' → h'.get? b = some o)
    (hlet : ∀ i v h tk Q E, P i v → StI (i + 1) h → Q () (St s h tk) → wpAny (model prog w) A (letOwnedTupleGo target (.ref I) v) Q E (St s h tk))
    (turn : ∀ i v l' mu' o h' tk', i < n → P i v → J i l' mu' → Sx h₀ L l' ((I, o) :: mu') h' →
      wpAny (model prog w) A (assign target env v) (fun _ s₂ => wpAny (model prog w) A (execs body env) (TurnF s h₀ L (J (i + 1)) (I, o) Q) (fun _ _ => False) s₂) (fun _ _ => False) (St s h' tk'))
    (done : ∀ l' mu' h' tk', J n l' mu' → Sx h₀ L l' mu' h' → Q .next (St s h' tk'))
    (hR : ∀ f s', Q f s' → R (.ok f) s') :
    codeAny (model prog w) A (.forLoop target (.ref I) body [] env) R (St s h tk) := by
  refine codeAny_forLoop_any (fun k s' => ∃ i l' mu' o h' tk', s' = St s h' tk' ∧ i ≤ n ∧ k = n - i ∧ J i l' mu' ∧ StI i h' ∧ Sx h₀ L l' ((I, o) :: mu') h') ?_ n ⟨0, l, mu, o₀, h, tk, rfl, Nat.zero_le _, rfl, hj, hst, S⟩
  rintro k s' ⟨i, l', mu', o, h', tk', rfl, hi, rfl, hJ, hSt, hS⟩
  by_cases hlt : i < n
  · refine W.item i _ _ _ hlt hSt fun v h₁ tk₁ hP hSt₁ hk₁ => ?_
    obtain ⟨o₁, ho₁⟩ := hI _ _ hSt₁
    have S₁ := hS.turn (fun b ob hb e => hk₁ b ob (by simpa using hb) e) ho₁
    refine hlet i v h₁ tk₁ _ _ hP hSt₁ ?_
    refine wpAny_mono (turn i v l' mu' o₁ h₁ tk₁ hlt hP hJ S₁) (fun _ s₂ hs₂ => ?_) fun _ _ f => f.elim
    refine wpAny_mono hs₂ (fun f s₃ hf => ?_) fun _ _ f => f.elim
    have step : (∃ l mu h tk, s₃ = St s h tk ∧ J (i + 1) l mu ∧ Sx h₀ L l ((I, o₁) :: mu) h) → ∃ m, m < n - i ∧ ∃ i_1 l' mu' o h' tk', s₃ = St s h' tk' ∧ i_1 ≤ n ∧ m = n - i_1 ∧ J i_1 l' mu' ∧ StI i_1 h' ∧ Sx h₀ L l' ((I, o) :: mu') h' := by
      rintro ⟨l₂, mu₂, h₂, tk₂, rfl, hJ₂, S₂⟩
      refine ⟨n - (i + 1), by omega, i + 1, l₂, mu₂, o₁, h₂, tk₂, rfl, hlt, rfl, hJ₂, ?_, S₂⟩
      refine W.frame _ _ _ hSt₁ fun b hb ob e => ?_
      rcases hfp b hb with rfl | ⟨ob', hob⟩
      · rw [ho₁] at e; cases e
        exact S₂.get (.head _)
      · have e1 := hob i l' mu' h₁ hJ (S₁.drop (List.sublist_cons_self _ _))
        have e2 := hob (i + 1) l₂ mu₂ h₂ hJ₂ (S₂.drop (List.sublist_cons_self _ _))
        rw [e] at e1; cases e1; exact e2
    cases f with
    | next => exact step hf
    | cont => exact step hf
    | brk => exact hR _ _ hf
    | ret v => exact hR _ _ hf
  · have hin : i = n := by omega
    subst hin
    refine W.done _ _ _ hSt fun h₁ tk₁ hk₁ => ?_
    exact wpAny_execs_nil (hR _ _ (done l' mu' h₁ tk₁ hJ (hS.off fun b ob hb e => hk₁ b ob (by simpa using hb) e)))
end
end Mine
end
section
open PySem PySem.W PyProof.Rows
open PySem.Sem (wp)
set_option maxRecDepth 100000
namespace Mine
section
variable {α β : Type} {M : Model} {A : Around} {E : Value → Shared → Prop} {s : Shared}
def codeC (M : Model) (A : Around) (c : Code) (R : Result → Shared → Prop) (s : Shared) : Prop :=
  ∀ Γ p, Γ.code = c → Γ.Below A → Clean Γ → wpCode M Γ R p s
theorem wpC_any {t : Sem α} {Q : α → Shared → Prop} (h : wpAny M A t Q E s) : wpC M A t Q E s := fun Γ p hΓ _ => h Γ p hΓ
theorem codeC_any {c : Code} {R : Result → Shared → Prop} (h : codeAny M A c R s) : codeC M A c R s := fun Γ p hc hΓ _ => h Γ p hc hΓ
theorem wpC_mono {t : Sem α} {Q Q' : α → Shared → Prop} {E' : Value → Shared → Prop} (h : wpC M A t Q E s) (hQ : ∀ a s, Q a s → Q' a s) (hE : ∀ e s, E e s → E' e s) : wpC M A t Q' E' s :=
  fun Γ p hΓ hc => Sem.wp_mono M Γ t (fun a _ s => hQ a s) (fun e _ s => hE e s) p s (h Γ p hΓ hc)
theorem codeC_mono {c : Code} {R R' : Result → Shared → Prop} (h : codeC M A c R s) (hR : ∀ r s, R r s → R' r s) : codeC M A c R' s :=
  fun Γ p hc hΓ hcl => wpCode_mono hR (h Γ p hc hΓ hcl)
theorem wpC_pure {a : α} {Q : α → Shared → Prop} (h : Q a s) : wpC M A (pure a) Q E s := fun _ _ _ _ => h
theorem wpC_bind {m : Sem α} {f : α → Sem β} {Q : β → Shared → Prop} (h : wpC M A m (fun a s' => wpC M A (f a) Q E s') E s) : wpC M A (m >>= f) Q E s := fun Γ p hΓ hc => by
  rw [Sem.wp_bind']
  exact Sem.wp_mono M Γ m (fun a p' s' h' => h' Γ p' hΓ hc) (fun _ _ _ h' => h') p s (h Γ p hΓ hc)
theorem wpC_holding {vs : List Value} {m : Sem α} {Q : α → Shared → Prop} (h : wpC M A m Q E s) : wpC M A (holding vs m) Q E s := fun Γ p hΓ hc => by
  rw [Sem.wp_holding]; exact h Γ p hΓ hc
theorem wpC_standAt {pos : Pos} {Q : Unit → Shared → Prop} (h : Q () s) : wpC M A (standAt pos) Q E s := fun _ _ _ _ => h
theorem wpC_onRaise {m : Sem α} {k : Value → Sem Unit} {Q : α → Shared → Prop} (h : wpC M A m Q (fun e s' => wpAny M A (k e) (fun _ s'' => E e s'') E s') s) : wpC M A (m.onRaise k) Q E s := fun Γ p hΓ hc => by
  rw [Sem.wp_onRaise]
  exact Sem.wp_mono M Γ m (fun _ _ _ h' => h') (fun e p' s' h' => h' Γ p' hΓ) p s (h Γ p hΓ hc)
theorem Clean.enter {Γ : Ctx} {c : Code} {h : Option Value} {p : Pos} (hc : Clean Γ) (hn : holdsNone c = true) : Clean (Γ.enter c h p) :=
  ⟨hn, fun x hx => by rcases List.mem_cons.mp hx with rfl | hx; exact hc.1; exact hc.2 x hx⟩
theorem Clean.goto {Γ : Ctx} {c : Code} (hc : Clean Γ) (hn : holdsNone c = true) : Clean (Γ.goto c) := ⟨hn, hc.2⟩
theorem wpC_run {c : Code} {h : Option Value} {Q : Flow → Shared → Prop} (hn : holdsNone c = true)
    (hc : codeC M (A.mark h) c (fun r s' => match r with | .ok f => Q f s' | .error e => E e s') s) (hnb : h ≠ some byPass := by intro x; cases x) : wpC M A (run c h) Q E s :=
  fun Γ p hΓ hcl => by rw [Sem.wp_run]; exact hc _ p rfl (hΓ.enter c h p hnb) (hcl.enter hn)
theorem wpC_call {f : Value} {pos : List Value} {kw : List (Str × Value)} {Q : Value → Shared → Prop}
    (hc : codeC M A (.call f ⟨pos, kw⟩) (fun r s' => match r with | .ok (.ret v) => Q v s' | .ok _ => False | .error e => E e s') s) : wpC M A (call f pos kw) Q E s :=
  fun Γ p hΓ hcl => by
    unfold call; rw [Sem.wp_runValue]
    exact hc _ p rfl (hΓ.enter _ none p (by intro x; cases x)) (hcl.enter rfl)
theorem codeC_tree {c : Code} {R : Result → Shared → Prop} 
    (h : wpC M (A.under c) (M.den c) (fun fin s' => match fin with | .done f => R (.ok f) s' | .again c' => c'.quiet = true ∧ holdsNone c' = true ∧ codeC M A c' R s') (fun e s' => R (.error e) s') s) : codeC M A c R s := fun Γ p hc hΓ hcl => by
  rw [wpCode_iff_wp, hc]
  refine Sem.wp_mono M Γ _ (fun fin p' s' h' => ?_) (fun _ _ _ h' => h') p s (h Γ p (hc ▸ hΓ.in) hcl)
  cases fin with
  | done f => exact h'
  | again c' => exact ⟨h'.1, h'.2.2 (Γ.goto c') p' rfl (hΓ.goto c') (hcl.goto h'.2.1)⟩
theorem codeC_loop {c : Code} {R : Result → Shared → Prop} (hq : c.quiet = true) (hn : holdsNone c = true) (I : Nat → Shared → Prop)
    (turn : ∀ n s, I n s → wpC M (A.under c) (M.den c) (fun fin s' => match fin with | .done f => R (.ok f) s' | .again c' => c' = c ∧ ∃ m, m < n ∧ I m s') (fun e s' => R (.error e) s') s)
    (n : Nat) (h : I n s) : codeC M A c R s := by
  induction n using Nat.strongRecOn generalizing s with
  | ind n ih =>
    refine codeC_tree (wpC_mono (turn n s h) (fun fin s' hf => ?_) fun _ _ h' => h')
    cases fin with
    | done f => exact hf
    | again c' => obtain ⟨rfl, m, hm, hI⟩ := hf; exact ⟨hq, hn, ih m hm hI⟩
theorem wpC_noted {m : Sem α} {Q : α → Shared → Prop} (h : wpC M A m Q (fun _ _ => False) s) {k : Value → Sem Unit} : wpC M A (m.onRaise k) Q E s :=
  wpC_onRaise (wpC_mono h (fun _ _ q => q) fun _ _ f => f.elim)
/-- the tree where the stack holds no bytearray -/
theorem wpC_exported {self : Value} {Q : Bool → Shared → Prop} (h : Q false s) : wpC M A (Builtin.Bytes.exported self) Q E s := fun Γ p hΓ hcl => by
  show Q (((Γ.code, p) :: Γ.below).any _) s
  refine Eq.mpr (congrArg (fun b => Q b s) (?_ : List.any _ _ = false)) h
  rw [List.any_eq_false]
  rintro ⟨c, q⟩ hx
  have hn : holdsNone c = true := by
    rcases List.mem_cons.mp hx with e | hx
    · cases e; exact hcl.1
    · exact hcl.2 _ hx
  rw [Bool.not_eq_true]
  split
  · rename_i e; obtain ⟨rfl, -⟩ := Prod.mk.inj e; simp [holdsNone, holdIds] at hn
  · rename_i e; obtain ⟨rfl, -⟩ := Prod.mk.inj e; simp [holdsNone, holdIds] at hn
  · rename_i e; obtain ⟨rfl, -⟩ := Prod.mk.inj e; simp [holdsNone, holdIds] at hn
  · rename_i e; obtain ⟨rfl, -⟩ := Prod.mk.inj e; simp [holdsNone, holdIds] at hn
  · rename_i e; obtain ⟨rfl, -⟩ := Prod.mk.inj e; simp [holdsNone, holdIds] at hn
  · rename_i id v _ _ _ _ _ _ _ _ e
    obtain ⟨rfl, -⟩ := Prod.mk.inj e
    simp only [holdsNone, holdIds, Bool.not_eq_true'] at hn
    have : Builtin.Bytes.decodersThatHold.contains id = false := by
      cases hq : Builtin.Bytes.decodersThatHold.contains id with
      | false => rfl
      | true => rw [List.contains_iff_mem] at hq; rw [← Bool.not_eq_true, List.contains_iff_mem] at hn; exact absurd (List.mem_append_right _ hq) hn
    rw [this, Bool.and_false]
  · rfl
end
end Mine
end
section
namespace Mine
def Tn (j b : Nat) : Nat := max 1 (min 26 (36 * (j + 1) - b))
theorem Tn_lo (j b : Nat) : 1 ≤ Tn j b := by unfold Tn; omega
theorem Tn_hi (j b : Nat) : Tn j b ≤ 26 := by unfold Tn; omega
def adL (d : Nat) : Nat × Nat := if 455 < d then ((adL (d / 35)).1, (adL (d / 35)).2 + 36) else (d, 0)
termination_by d
theorem adL_big {d : Nat} (h : 455 < d) : adL d = ((adL (d / 35)).1, (adL (d / 35)).2 + 36) := by rw [adL, if_pos h]
theorem adL_small {d : Nat} (h : ¬ 455 < d) : adL d = (d, 0) := by rw [adL, if_neg h]
def adS (delta : Nat) (first : Bool) (n : Nat) : Nat := (if first then delta / 700 else delta / 2) + (if first then delta / 700 else delta / 2) / n
def adF (delta : Nat) (first : Bool) (n : Nat) : Nat := (adL (adS delta first n)).2 + 36 * (adL (adS delta first n)).1 / ((adL (adS delta first n)).1 + 38)
theorem enc_dec {j b N : Nat} (h : ¬ N < Tn j b) : (N - Tn j b) / (36 - Tn j b) < N := by
  have h1 := Tn_lo j b
  have h2 := Tn_hi j b
  have : (N - Tn j b) / (36 - Tn j b) ≤ N - Tn j b := Nat.div_le_self _ _
  omega
def enc (b : Nat) (j N : Nat) : List Nat :=
  if h : N < Tn j b then [N] else (Tn j b + (N - Tn j b) % (36 - Tn j b)) :: enc b (j + 1) ((N - Tn j b) / (36 - Tn j b))
termination_by N
decreasing_by exact enc_dec h
theorem enc_small {b j N : Nat} (h : N < Tn j b) : enc b j N = [N] := by rw [enc, dif_pos h]
theorem enc_big {b j N : Nat} (h : ¬ N < Tn j b) : enc b j N = (Tn j b + (N - Tn j b) % (36 - Tn j b)) :: enc b (j + 1) ((N - Tn j b) / (36 - Tn j b)) := by rw [enc, dif_neg h]
theorem enc_lt : ∀ (N b j : Nat), ∀ d ∈ enc b j N, d < 36 := by
  intro N
  induction N using Nat.strongRecOn with
  | ind N ih =>
    intro b j d hd
    have h1 := Tn_lo j b
    have h2 := Tn_hi j b
    by_cases h : N < Tn j b
    · rw [enc_small h] at hd; simp at hd; omega
    · rw [enc_big h] at hd
      rcases List.mem_cons.mp hd with rfl | hd
      · have := Nat.mod_lt (N - Tn j b) (show 0 < 36 - Tn j b by omega); omega
      · exact ih _ (enc_dec h) _ _ _ hd
/-- the octet of a figure -/
def dig (d : Nat) : Nat := if d < 26 then 97 + d else 22 + d
/-- all the figures -/
def encAll (base : Nat) : Nat → Nat → List Nat → List Nat
  | _, _, [] => []
  | p, b, d :: r => enc b 0 d ++ encAll base (p + 1) (adF d (p == 0) (base + p + 1)) r
end Mine
end
section
open PySem PySem.W PyProof.Rows
open PySem.Sem (wp)
set_option maxRecDepth 100000
namespace Mine
namespace Fc
theorem slot_append : Slot "bytearray" "append" "bytearray.append" := Slot.of (by rw [typeLookup_type, builtinLookup_eq_fast]; kernel_rfl) (owner := "bytearray") (n := "append") (by kernel_rfl) (by kernel_rfl) (by kernel_rfl) (.inr (by kernel_rfl)) (by rw [isSubtype_type]; kernel_rfl)
theorem slot_extend : Slot "bytearray" "extend" "bytearray.extend" := Slot.of (by rw [typeLookup_type, builtinLookup_eq_fast]; kernel_rfl) (owner := "bytearray") (n := "extend") (by kernel_rfl) (by kernel_rfl) (by kernel_rfl) (.inr (by kernel_rfl)) (by rw [isSubtype_type]; kernel_rfl)
theorem slot_init : Slot "bytearray" "__init__" "bytearray.__init__" := Slot.of (by rw [typeLookup_type, builtinLookup_eq_fast]; kernel_rfl) (owner := "bytearray") (n := "__init__") (by kernel_rfl) (by kernel_rfl) (by kernel_rfl) (.inl (by kernel_rfl)) (by rw [isSubtype_type]; kernel_rfl)
theorem ty_append : typeOf (.builtin "bytearray.append") = pure (.type "method_descriptor") := by kernel_rfl
theorem ty_extend : typeOf (.builtin "bytearray.extend") = pure (.type "method_descriptor") := by kernel_rfl
theorem entry_append : entryFor table "bytearray.append" = some Builtin.«bytearray.append» := entryFor_of_tree (by kernel_rfl)
theorem entry_extend : entryFor table "bytearray.extend" = some Builtin.«bytearray.extend» := entryFor_of_tree (by kernel_rfl)
theorem entry_init : entryFor table "bytearray.__init__" = some Builtin.«bytearray.__init__» := entryFor_of_tree (by kernel_rfl)
theorem mro_ba : mroOf (.type "bytearray") = pure [.type "bytearray", .type "object"] := by rw [mroOf_type]; kernel_rfl
theorem lookup_new : typeLookup (.type "bytearray") "__new__" = pure (some (.builtin "bytearray.__new__")) := by rw [typeLookup_type, builtinLookup_eq_fast]; kernel_rfl
theorem called_ba : TypeCalled "bytearray" "bytearray.__new__" "bytearray.__init__" :=
  ⟨by decide +kernel, by decide +kernel, ⟨_, _, mro_ba⟩, madeBy_type mro_ba lookup_new (by decide +kernel), by decide +kernel, by rw [isSubtype_type]; kernel_rfl, slot_init⟩
theorem typeCall_ba : checkTypeCall "bytearray" ⟨[], []⟩ = pure () := by kernel_rfl
theorem newCall_ba : checkBuiltinCall "bytearray.__new__" ⟨[.type "bytearray"], []⟩ = pure () := by kernel_rfl
theorem ga_ba : PlainAttrs "bytearray" := ⟨⟨"bytearray.__getattribute__", by rw [typeLookup_type, builtinLookup_eq_fast]; kernel_rfl, by decide +kernel⟩, by rw [typeLookup_type, builtinLookup_eq_fast]; kernel_rfl⟩
theorem entry_new : entryFor table "bytearray.__new__" = some Builtin.«list.__new__» := entryFor_alias (id' := "list.__new__") (by kernel_rfl) (by decide +kernel) (by decide +kernel) (by kernel_rfl)
theorem plain_new : plainId "bytearray.__new__" = true := by decide +kernel
theorem sub_ba : isSubtype (.type "bytearray") (.type "bytearray") = pure true := by rw [isSubtype_type]; kernel_rfl
set_option maxRecDepth 1000000 in
set_option maxHeartbeats 4000000 in
theorem owner_new : ("bytearray.__new__".splitOn ".__new__").headD "" = "bytearray" := by simp +decide [String.splitOn, String.splitOnAux]
end Fc
end Mine
end
section
open PySem PySem.W PyProof.Rows
open PySem.Sem (wp)
set_option maxRecDepth 100000
namespace Mine
def bobj (b : Array UInt8) : Obj := { cls := .type "bytearray", data := .bytearray b }
section
variable {prog : Program} {w : World} {A : Around} {E : Value → Shared → Prop} {s : Shared}
theorem code_ba_new {Q₁ : Value → Shared → Prop} (h : Q₁ (.ref s.heap.objs.size) { s with heap := s.heap.push (bobj #[]) }) :
    codeAny (model prog w) A (.call (.builtin "bytearray.__new__") ⟨[.type "bytearray"], []⟩) (wants Q₁ E) s := by
  refine codeAny_of_tree ?_
  show wpAny _ A.in1 (do checkBuiltinCall "bytearray.__new__" ⟨[.type "bytearray"], []⟩; again (.builtin "bytearray.__new__" ⟨[.type "bytearray"], []⟩)) _ _ s
  refine wpAny_bind (wpAny_of_eq Fc.newCall_ba (wpAny_pure ⟨plainId_quiet Fc.plain_new _, codeAny_builtin_stack Fc.entry_new rfl fun p st => ?_⟩))
  rw [Around.under_plainId Fc.plain_new _]
  have hsub := Fc.sub_ba
  have hown := Fc.owner_new
  obtain ⟨hp, g, d, tk, os⟩ := s
  simp only [hown]
  wp_walk
  exact h
end
section
variable {prog : Program} {w : World} {A : Around} {E : Value → Shared → Prop} {s : Shared}
theorem codeC_builtin {id : String} {args : Args} {b : Builtin} {R : Result → Shared → Prop} (hb : entryFor table id = some b)
    (h : wpC (model prog w) (A.under (.builtin id args)) (b args)
      (fun fin s' => match fin with | .done f => R (.ok f) s' | .again c' => c'.quiet = true ∧ holdsNone c' = true ∧ codeC (model prog w) A c' R s') (fun e s' => R (.error e) s') s) :
    codeC (model prog w) A (.builtin id args) R s := by
  refine codeC_tree ?_
  show wpC _ _ (match entryFor table id with | some b => b args | none => unsupported ((withoutEnding? id "#data").getD id)) _ _ s
  rw [hb]; exact h
theorem codeC_call_builtin {id : String} {args : Args} {b : Builtin} {R : Result → Shared → Prop} (hq : plainId id = true) (hn : holdsNone (.builtin id args) = true) (hb : entryFor table id = some b)
    (h : wpAny (model prog w) A.in1 (checkBuiltinCall id args) (fun _ s₁ => wpC (model prog w) A.in1 (b args)
      (fun fin s' => match fin with | .done f => R (.ok f) s' | .again c' => c'.quiet = true ∧ holdsNone c' = true ∧ codeC (model prog w) A c' R s') (fun e s' => R (.error e) s') s₁)
      (fun e s' => R (.error e) s') s) : codeC (model prog w) A (.call (.builtin id) args) R s := by
  refine codeC_tree ?_
  show wpC _ A.in1 (do checkBuiltinCall id args; again (.builtin id args)) _ _ s
  refine wpC_bind (wpC_any (wpAny_mono h (fun _ s₁ h₁ => wpC_pure ⟨plainId_quiet hq args, hn, codeC_builtin hb ?_⟩) fun _ _ h' => h'))
  rw [Around.under_plainId hq args]; exact h₁
theorem wpC_checkResize {a : Addr} {b : Array UInt8} {Q : Unit → Shared → Prop} {M : Model} (ho : s.heap.get? a = some (bobj b)) (h : Q () s) : wpC M A (Builtin.Bytes.checkResize (.ref a)) Q E s := by
  unfold Builtin.Bytes.checkResize
  refine wpC_bind ?_
  unfold orM
  refine wpC_bind (wpC_exported (wpC_any ?_))
  show wpAny M A (Builtin.Bytes.exportsOf (.ref a) >>= _) _ _ s
  have hf : (decide (0 > 0)) = false := rfl
  unfold bobj at ho
  repeat (any_goals (first | assumption | wp_step))
  exact wpC_pure h
/-- a write to the bytearray -/
theorem wp_write {a : Addr} {b : Array UInt8} {f : Array UInt8 → Array UInt8} {Q : Unit → Shared → Prop} {M : Model} (ho : s.heap.get? a = some (bobj b)) (hsz : (f b).size ≤ sizeLine)
    (h : ∀ h', Heap.SameBut a s.heap h' → h'.get? a = some (bobj (f b)) → Q () { s with heap := h' }) : wpAny M A (Builtin.Bytes.write (.ref a) f) Q E s := by
  show wpAny M A (updateBytearray a f) Q E s
  unfold updateBytearray
  refine wpAny_bind (wpAny_load ho ?_)
  show wpAny M A (do update a (Obj.mapBytearray f); lookBehind a) Q E s
  refine wpAny_bind (wpAny_update ho ?_)
  have hg : (s.heap.update a (Obj.mapBytearray f)).get? a = some (bobj (f b)) := Heap.get?_update_self _ ho rfl
  refine wpAny_lookBehind (o := bobj (f b)) hg ?_ (h _ (Heap.SameBut.update _ _ _) hg)
  show (if (f b).size > sizeLine then _ else _) = _
  rw [if_neg (Nat.not_lt.mpr hsz)]
end
end Mine
end
section
open PySem PySem.W PyProof.Rows
open PySem.Sem (wp)
set_option maxRecDepth 100000
namespace Mine
theorem hn_b {id : String} {args : Args} (h : holdIds.contains id = false) : holdsNone (.builtin id args) = true := by simp [holdsNone]; simpa using h
section
variable {prog : Program} {w : World} {A : Around} {E : Value → Shared → Prop} {s : Shared}
theorem args_append (x y : Value) : argsOk "bytearray.append" ⟨[x, y], []⟩ := by kernel_rfl
theorem args_extend (x y : Value) : argsOk "bytearray.extend" ⟨[x, y], []⟩ := by kernel_rfl
theorem args_init (x : Value) : argsOk "bytearray.__init__" ⟨[x], []⟩ := by kernel_rfl
theorem ba_append {a : Addr} {b : Array UInt8} {c : Nat} {t : Tok} {Q : Value → Shared → Prop} (ho : s.heap.get? a = some (bobj b)) (hc : c < 256) (hsz : b.size < sizeLine)
    (h : ∀ h', Heap.SameBut a s.heap h' → h'.get? a = some (bobj (b.push c.toUInt8)) → Q .none { s with heap := h' }) :
    wpC (model prog w) A (call (.builtin "bytearray.append") [.ref a, .int c t]) Q E s := by
  refine wpC_call (codeC_call_builtin Fc.slot_append.plain (hn_b (by decide +kernel)) Fc.entry_append (Fc.slot_append.check _ _ _ _ _ _ _ _ ⟨_, ho, rfl⟩ (args_append _ _) ?_))
  unfold Builtin.«bytearray.append»
  refine wpC_bind (wpC_any ?_)
  repeat (any_goals (first | assumption | wp_step))
  dsimp only
  have hif : (decide ((c : Int) < 0) || decide ((c : Int) ≥ 256)) = false := by simp; omega
  refine wpC_bind (wpC_any ?_)
  repeat (any_goals (first | assumption | wp_step))
  refine wpC_bind (wpC_checkResize ho ?_)
  refine wpC_bind (wpC_any (wp_write ho (by rw [Array.size_push]; omega) fun h' hs hg => ?_))
  exact wpC_pure (h h' hs (by simpa using hg))
theorem buf_full {id : String} {f : Bool} {b : Array UInt8} {t : Tok} : Builtin.Bytes.buffer? id (.bytes b t) f = pure (some b) := by
  unfold Builtin.Bytes.buffer?
  rw [KBy.special_eq KBy.look_buffer, KBy.own_buffer, KBy.own_release]
  kernel_rfl
theorem take_eq {id : String} {b : Array UInt8} {t : Tok} : Builtin.Bytes.takeBufferQuiet? id (.bytes b t) 0 = pure (some (b, none)) := by
  unfold Builtin.Bytes.takeBufferQuiet? Builtin.Bytes.takeBuffer?
  rw [KBy.special_eq KBy.look_buffer, KBy.own_buffer, buf_full]
  kernel_rfl
theorem ba_extend {a : Addr} {b m : Array UInt8} {t : Tok} {Q : Value → Shared → Prop} (ho : s.heap.get? a = some (bobj b)) (hsz : b.size + m.size ≤ sizeLine)
    (h : ∀ h', Heap.SameBut a s.heap h' → h'.get? a = some (bobj (b ++ m)) → Q .none { s with heap := h' }) :
    wpC (model prog w) A (call (.builtin "bytearray.extend") [.ref a, .bytes m t]) Q E s := by
  refine wpC_call (codeC_call_builtin Fc.slot_extend.plain (hn_b (by decide +kernel)) Fc.entry_extend (Fc.slot_extend.check _ _ _ _ _ _ _ _ ⟨_, ho, rfl⟩ (args_extend _ _) ?_))
  unfold Builtin.«bytearray.extend»
  refine wpC_bind (wpC_any ?_)
  repeat (any_goals (first | assumption | wp_step))
  dsimp only
  refine wpC_bind (wpC_any (wpAny_of_eq (KBy.special_eq KBy.look_buffer) ?_))
  show wpC _ _ (rule _ >>= _) _ _ _
  refine wpC_bind (wpC_any (wpAny_rule ?_))
  refine wpC_bind (wpC_any ?_)
  unfold bobj at ho
  show wpAny _ _ (Builtin.Bytes.payload (.ref a)) _ _ _
  repeat (any_goals (first | assumption | wp_step))
  refine wpC_bind (wpC_any (wpAny_of_eq take_eq ?_))
  show wpC _ _ (if (!m.isEmpty) = true then (Builtin.Bytes.checkResize (.ref a) >>= fun _ => Builtin.Bytes.write (.ref a) (· ++ m) >>= fun _ => ret .none) else (Builtin.Bytes.write (.ref a) (· ++ m) >>= fun _ => ret .none)) _ _ _
  have fin : wpC (model prog w) A.in1 (do Builtin.Bytes.write (.ref a) (· ++ m); ret .none) (fun fin s' => match fin with
      | .done f => wants Q E (.ok f) s'
      | .again c' => c'.quiet = true ∧ holdsNone c' = true ∧ codeC (model prog w) A c' (wants Q E) s') E s :=
    wpC_bind (wpC_any (wp_write ho (by rw [Array.size_append]; exact hsz) fun h' hs hg => wpC_pure (h h' hs hg)))
  by_cases he : (!m.isEmpty) = true
  · rw [if_pos he]
    exact wpC_bind (wpC_checkResize ho fin)
  · rw [if_neg he]
    exact fin
theorem look_release_ba : typeLookup (.type "bytearray") "__release_buffer__" = pure (some (.builtin "bytearray.__release_buffer__")) := by rw [typeLookup_type, builtinLookup_eq_fast]; kernel_rfl
theorem own_release_ba {M : Model} {v : Value} {Q : Bool → Shared → Prop} (hT : s.TypeIs v "bytearray") (h : Q false s) : wpAny M A (Builtin.Bytes.ownRelease v) Q E s := by
  unfold Builtin.Bytes.ownRelease Builtin.Bytes.slotIsOwn
  refine wpAny_bind (wpAny_bind (wpAny_specialOf hT look_release_ba ?_))
  have key : ∀ x : String, x = "bytearray" → wpAny M A (isInstance v (.type x)) (fun b s' => wpAny M A (pure !b) Q E s') E s := fun x hx => by
    subst hx
    exact wpAny_isInstance hT Fc.sub_ba (wpAny_pure h)
  dsimp only
  split
  · rename_i hx; exact absurd hx (by decide +kernel)
  · exact key _ (by decide +kernel)
theorem wpC_heldOr {a : Addr} {b : Array UInt8} {Q : Bool → Shared → Prop} {M : Model} (ho : s.heap.get? a = some (bobj b)) (h : Q false s) : wpC M A (Builtin.Bytes.exported (.ref a) <||> (do return decide ((← Builtin.Bytes.exportsOf (.ref a)) > 0))) Q E s := by
  unfold orM
  refine wpC_bind (wpC_exported (wpC_any ?_))
  show wpAny M A (Builtin.Bytes.exportsOf (.ref a) >>= _) _ _ s
  unfold bobj at ho
  repeat (any_goals (first | assumption | wp_step))
theorem ba_make {Q : Value → Shared → Prop} (h : ∀ h', Keeps s.heap h' → h'.get? s.heap.objs.size = some (bobj #[]) → Q (.ref s.heap.objs.size) { s with heap := h' }) :
    wpC (model prog w) A (call (.type "bytearray") []) Q E s := by
  refine wpC_call (codeC_tree ?_)
  show wpC _ _ (callAny (.type "bytearray") _) _ _ _
  refine wpC_pure ⟨Code.quiet_builtin _ (by decide +kernel), hn_b (by decide +kernel), codeC_builtin F.entry_type_call ?_⟩
  rw [Around.under_plain (weight_type_call_type "bytearray" [] []) (units_type_call_type "bytearray" [] [])]
  have h1 := Fc.called_ba.notType
  have h2 := Fc.called_ba.canCreate
  have h3 := Fc.called_ba.made
  have h4 := Fc.called_ba.sub
  have h5 := Fc.mro_ba
  have h6 := Fc.typeCall_ba
  unfold Builtin.«type.__call__»
  dsimp only
  rw [h1, if_neg Bool.false_ne_true, h2, if_neg Bool.false_ne_true]
  refine wpC_bind (wpC_any (wpAny_of_eq h6 ?_))
  refine wpC_bind (wpC_any (wpAny_of_eq h5 ?_))
  rw [if_neg (by simp)]
  refine wpC_bind (wpC_any (wpAny_of_eq h3 ?_))
  refine wpC_bind (wpC_pure ?_)
  refine wpC_bind (wpC_holding (wpC_any (wpAny_call (code_ba_new ?_))))
  have ho : (s.heap.push (bobj #[])).get? s.heap.objs.size = some (bobj #[]) := Heap.get?_push_size _ rfl
  have hT : ({ s with heap := s.heap.push (bobj #[]) } : Shared).TypeIs (.ref s.heap.objs.size) "bytearray" := ⟨_, ho, rfl⟩
  refine wpC_bind (wpC_any (wpAny_isInstance hT h4 ?_))
  rw [if_neg (by simp)]
  refine wpC_bind (wpC_holding ?_)
  unfold callSpecial?
  refine wpC_bind (wpC_any (wpAny_specialOf hT Fc.slot_init.lookup ?_))
  refine wpC_holding (wpC_bind (wpC_any (wpAny_of_eq (Fc.slot_init.bind _) ?_)))
  refine wpC_bind (wpC_call (codeC_call_builtin Fc.slot_init.plain (hn_b (by decide +kernel)) Fc.entry_init (Fc.slot_init.check _ _ _ _ _ _ _ _ hT (args_init _) ?_)))
  unfold Builtin.«bytearray.__init__»
  dsimp only
  refine wpC_bind (wpC_any (own_release_ba hT ?_))
  rw [if_neg Bool.false_ne_true]
  refine wpC_bind (wpC_any (wpAny_of_eq (a := [none, none, none]) (by kernel_rfl) ?_))
  dsimp only
  refine wpC_bind (wpC_any (wpAny_of_eq (a := ()) rfl ?_))
  refine wpC_bind (wpC_any (wpAny_of_eq (a := ()) rfl ?_))
  refine wpC_bind (wpC_heldOr ho ?_)
  rw [if_neg Bool.false_ne_true]
  refine wpC_bind (wpC_any (wp_write ho (Nat.zero_le _) fun h' hs hg => ?_))
  refine wpC_bind (wpC_any (wpAny_of_eq (a := ()) rfl ?_))
  refine wpC_pure (wpC_pure (wpC_pure (h h' (fun b o e => ?_) hg)))
  exact hs.extBut b o (Nat.ne_of_lt (Heap.lt_size e)) (Heap.get?_push_of_some _ e)
end
end Mine
end
section
open PySem PySem.W PyProof.Rows
open PySem.Sem (wp)
set_option maxRecDepth 100000
namespace Mine
namespace Fc
theorem no_bytes : typeLookup (.type "bytearray") "__bytes__" = pure none := by rw [typeLookup_type, builtinLookup_eq_fast]; kernel_rfl
theorem noindex : typeLookup (.type "bytearray") "__index__" = pure none := by rw [typeLookup_type, builtinLookup_eq_fast]; kernel_rfl
theorem look_buffer : typeLookup (.type "bytearray") "__buffer__" = pure (some (.builtin "bytearray.__buffer__")) := by rw [typeLookup_type, builtinLookup_eq_fast]; kernel_rfl
end Fc
section
variable {prog : Program} {w : World} {A : Around} {E : Value → Shared → Prop} {s : Shared}
theorem own_buffer_ba {M : Model} {v : Value} {Q : Bool → Shared → Prop} (hT : s.TypeIs v "bytearray") (h : Q true s) : wpAny M A (Builtin.Bytes.slotIsOwn v "__buffer__") Q E s := by
  unfold Builtin.Bytes.slotIsOwn
  refine wpAny_bind (wpAny_specialOf hT Fc.look_buffer ?_)
  have key : ∀ x : String, x = "bytearray" → wpAny M A (isInstance v (.type x)) Q E s := fun x hx => by
    subst hx
    exact wpAny_isInstance hT Fc.sub_ba h
  dsimp only
  split
  · rename_i hx; exact absurd hx (by decide +kernel)
  · exact key _ (by decide +kernel)
theorem buffer_ba {M : Model} {id : String} {f : Bool} {a : Addr} {b : Array UInt8} {Q : Option (Array UInt8) → Shared → Prop} (ho : s.heap.get? a = some (bobj b)) (h : Q (some b) s) : wpAny M A (Builtin.Bytes.buffer? id (.ref a) f) Q E s := by
  have hT : s.TypeIs (.ref a) "bytearray" := ⟨_, ho, rfl⟩
  unfold Builtin.Bytes.buffer?
  refine wpAny_bind (wpAny_specialOf hT Fc.look_buffer ?_)
  refine wpAny_bind (own_buffer_ba hT ?_)
  refine bm_if_false rfl ?_
  refine wpAny_bind (wpAny_specialOf hT Fc.look_buffer ?_)
  refine wpAny_bind (own_release_ba hT ?_)
  refine bm_if_false rfl ?_
  unfold bobj at ho
  repeat (any_goals (first | assumption | wp_step))
theorem ba_new {a : Addr} {b : Array UInt8} {Q : Value → Shared → Prop} (ho : s.heap.get? a = some (bobj b)) (hz : b.size ≤ sizeLine)
    (hQ : ∀ t k, Q (.bytes b t) { s with toks := k }) :
    codeAny (model prog w) A (.call (.builtin "bytes.__new__") ⟨[.type "bytes", .ref a], []⟩) (wants Q E) s := by
  refine codeAny_of_tree ?_
  show wpAny _ A.in1 (do checkBuiltinCall "bytes.__new__" ⟨[.type "bytes", .ref a], []⟩; again (.builtin "bytes.__new__" ⟨[.type "bytes", .ref a], []⟩)) _ _ s
  refine wpAny_bind (wpAny_of_eq (F.bm_newCall _) (wpAny_pure ⟨plainId_quiet F.bm_plain _, codeAny_builtin F.bm_entry ?_⟩))
  rw [Around.under_plainId F.bm_plain _]
  have hT : s.TypeIs (.ref a) "bytearray" := ⟨_, ho, rfl⟩
  unfold Builtin.«bytes.__new__»
  refine wpAny_bind (wpAny_of_eq (a := true) rfl ?_)
  refine bm_if_false rfl ?_
  refine wpAny_bind (wpAny_of_eq F.bm_sub ?_)
  refine bm_if_false rfl ?_
  refine wpAny_bind (wpAny_of_eq (F.bm_bind _) ?_)
  refine wpAny_bind (wpAny_of_eq (a := ()) rfl ?_)
  refine wpAny_bind (wpAny_of_eq (a := ()) rfl ?_)
  refine bm_if_false rfl ?_
  refine wpAny_bind (wpAny_specialOf hT Fc.no_bytes ?_)
  refine wpAny_bind (wpAny_bind ?_)
  show wpAny _ _ (load a >>= _) _ _ _
  refine wpAny_bind (wpAny_load ho ?_)
  refine wpAny_pure (wpAny_pure ?_)
  refine bm_if_false rfl ?_
  refine wpAny_bind (wpAny_specialOf hT Fc.noindex ?_)
  refine bm_if_true rfl ?_
  first
    | show wpAny _ _ (Builtin.Bytes.buffer? "bytes.__new__" (.ref a) true >>= _) _ _ _
    | (refine wpAny_bind ?_; show wpAny _ _ (Builtin.Bytes.buffer? "bytes.__new__" (.ref a) true >>= _) _ _ _)
  refine wpAny_bind (buffer_ba ho ?_)
  repeat (any_goals (first | assumption | wp_step))
  exact hQ _ _
theorem call_bytes_ba {a : Addr} {b : Array UInt8} {Q : Value → Shared → Prop} (ho : s.heap.get? a = some (bobj b)) (hz : b.size ≤ sizeLine)
    (hQ : ∀ t k, Q (.bytes b t) { s with toks := k }) : wpAny (model prog w) A (call (.type "bytes") [.ref a]) Q E s := by
  refine callType_codes (Q₁ := fun obj s₁ => s₁.TypeIs obj "bytes" ∧ Q obj s₁) F.bm_called (F.bm_typeCall _) F.entry_object_init
    (ba_new ho hz fun t k => ⟨PySem.W.typeIs_bytes _ _ _, hQ t k⟩) fun obj s₁ h₁ => ?_
  exact ⟨h₁.1, F.args_object_init_2 obj _, object_init_meets F.bm_called.init.lookup F.bm_called.made (by decide) prog w A.in1 _ s₁ ⟨h₁.1, rfl, h₁.2⟩⟩
end
end Mine
end
section
open PySem PySem.W PyProof.Rows
open PySem.Sem (wp)
set_option maxRecDepth 100000
namespace Mine
section
variable {M : Model} {A : Around} {E : Value → Shared → Prop} {s : Shared} {env : Env}
def FallC (M : Model) (A : Around) (env : Env) (rest : List Stmt) (Q : Flow → Shared → Prop) (E : Value → Shared → Prop) (f : Flow) (s : Shared) : Prop :=
  match f with | .next => wpC M A (execs rest env) Q E s | f => Q f s
theorem c_cons {st rest} {Q : Flow → Shared → Prop} (k : wpC M A (exec st env) (FallC M A env rest Q E) E s) : wpC M A (execs (st :: rest) env) Q E s := by
  rw [execs_cons]
  refine wpC_bind (wpC_mono k (fun f s' h => ?_) fun _ _ e => e)
  cases f <;> first | exact h | exact wpC_pure h
theorem c_st {st rest} {Q : Flow → Shared → Prop} (k : wpAny M A (exec st env) (FallC M A env rest Q E) E s) : wpC M A (execs (st :: rest) env) Q E s := c_cons (wpC_any k)
theorem c_nil {Q : Flow → Shared → Prop} (k : Q .next s) : wpC M A (execs [] env) Q E s := fun _ _ _ _ => k
theorem c_fall {rest} {Q : Flow → Shared → Prop} (k : wpC M A (execs rest env) Q E s) : FallC M A env rest Q E .next s := k
theorem c_fallR {rest} {v : Value} {Q : Flow → Shared → Prop} (k : Q (.ret v) s) : FallC M A env rest Q E (.ret v) s := k
theorem c_assign {x pos' value pos} {Q : Flow → Shared → Prop}
    (h : wpC M A (eval value env) (fun v s₁ => wpAny M A (storeName env x v) (fun _ => Q .next) E s₁) E s)
    (hs : swapsWith value (some (.Name x pos')) pos.line env = pure false) : wpC M A (exec (.Assign [.Name x pos'] value pos) env) Q E s := by
  rw [exec_Assign_Name env x pos' value pos hs]
  refine wpC_bind (wpC_standAt (wpC_bind (wpC_mono h (fun v s₁ h₁ => wpC_bind (wpC_standAt (wpC_bind (wpC_any (wpAny_bindName (wpAny_mono h₁ (fun _ _ q => wpC_pure q) fun _ _ e => e)))))) fun _ _ e => e)))
theorem c_expr {e pos} {Q : Flow → Shared → Prop} (h : wpC M A (eval e env) (fun v s' => v = .none ∧ Q .next s') E s)
    (hi : interactive env = false) (hs : swapsWith e none pos.line env = pure false) : wpC M A (exec (.Expr e pos) env) Q E s := by
  rw [exec_Expr env e pos hi hs]
  refine wpC_bind (wpC_standAt (wpC_bind (wpC_mono h (fun v s' h' => ?_) fun _ _ x => x)))
  obtain ⟨rfl, hq⟩ := h'
  rw [dropValue_plain (by intro a; simp)]
  exact wpC_pure hq
theorem c_if {test body orelse pos} {Q : Flow → Shared → Prop}
    (h : wpC M A (isTrue test env (eval test env)) (fun b s₂ => if b = true then wpC M A (execs body env) Q E s₂ else wpC M A (execs orelse env) Q E s₂) E s) :
    wpC M A (exec (.If test body orelse pos) env) Q E s := by
  rw [exec_If]
  refine wpC_bind (wpC_standAt (wpC_bind (wpC_mono h (fun b s₂ h₂ => ?_) fun _ _ e => e)))
  cases b <;> simpa using h₂
theorem c_call {x : Str} {np pos : Pos} {args : List Expr} {f : Addr} {o : Obj} {fd : FuncData} {Q : Value → Shared → Prop} 
    (h : wpAny M A (eval (.Name x np) env) (fun fv s₁ => fv = .ref f ∧ wpAny M A (spliced (backTo pos (starEach args env))) (fun vs s₂ => (s₂.heap.get? f = some o ∧ o.data = .func fd) ∧ wpC M A (call (.ref f) vs) Q E s₂) E s₁) E s)
    (he : eval (.Call (.Name x np) args [] pos) env = (do callWith pos (← eval (.Name x np) env) [] (backTo pos (starEach args env)) (backToKw pos (keywordEach [] env))))
    (hx : ∃ y r, backTo pos (starEach args env) = (false, y) :: r) (hplain : (backTo pos (starEach args env)).any (·.1) = false) :
    wpC M A (eval (.Call (.Name x np) args [] pos) env) Q E s := by
  rw [he]
  refine wpC_bind (wpC_any (wpAny_mono h (fun fv s₁ h₁ => ?_) fun _ _ e => e))
  obtain ⟨rfl, h₁⟩ := h₁
  show wpC M A (callWith pos (.ref f) [] (backTo pos (starEach args env)) []) Q E s₁
  unfold callWith
  refine wpC_bind (wpC_holding (wpC_any ?_))
  obtain ⟨y, r, hy⟩ := hx
  rw [hy] at h₁ hplain ⊢
  refine Calls.evalArgs_plain (wpAny_mono h₁ (fun vs s₂ h₂ => ?_) fun _ _ e => e)
  obtain ⟨⟨ho, hd⟩, h₂⟩ := h₂
  refine wpC_bind (wpC_standAt ?_)
  simp only [hplain, List.any_nil, Bool.or_false]
  have hkp : wpAny M A (keeperOf (.ref f)) (fun k s' => k = Keeper.frame ∧ s' = s₂) E s₂ := by
    unfold keeperOf
    refine wpAny_bind (wpAny_load ho ?_)
    rw [hd]
    exact wpAny_pure ⟨rfl, rfl⟩
  have tail : ∀ {t : Sem Value}, wpC M A t Q E s₂ → wpC M A (t >>= fun r => holding [r] point >>= fun _ => pure r) Q E s₂ :=
    fun ht => wpC_bind (wpC_mono ht (fun r s₂ hr => wpC_bind (wpC_holding (wpC_any (wpAny_point (wpC_pure hr))))) fun _ _ x => x)
  have marked (mk : Value) : wpC M A (callMarked mk (.ref f) vs []) Q E s₂ := fun Γ p hΓ hc => by
    unfold callMarked
    rw [Sem.wp_keep]; exact h₂ Γ p hΓ hc
  refine wpC_bind (wpC_any (wpAny_mono hkp (fun k s' hk => ?_) fun _ _ e => e))
  obtain ⟨rfl, rfl⟩ := hk
  show wpC M A (if _ > 30 then _ else _) Q E s'
  split
  · exact tail h₂
  · exact tail (marked _)
theorem c_method {o : Expr} {name : Str} {apos pos : Pos} {args : List Expr} {pl : Sem Bool} {Q : Value → Shared → Prop} {id : String} {ov : Value}
    (h : wpAny M A (eval o env) (fun ov' s₁ => ov' = ov ∧ wpAny M A (getMethod ov name pl) (fun fx s₂ => fx = (.builtin id, [ov]) ∧ wpAny M A (spliced (backTo pos (starEach args env))) (fun vs s₃ => wpC M A (call (.builtin id) (ov :: vs)) Q E s₃) E s₂) E s₁) E s)
    (he : eval (.Call (.Attribute o name apos) args [] pos) env = (do
      let ov ← eval o env
      standAt apos.atName
      let (f, first) ← holding [ov] (getMethod ov name pl)
      callWith pos f first (backTo pos (starEach args env)) []))
    (hx : ∃ y r, backTo pos (starEach args env) = (false, y) :: r) (hplain : (backTo pos (starEach args env)).any (·.1) = false) :
    wpC M A (eval (.Call (.Attribute o name apos) args [] pos) env) Q E s := by
  rw [he]
  refine wpC_bind (wpC_any (wpAny_mono h (fun ov' s₁ h₁ => ?_) fun _ _ e => e))
  obtain ⟨rfl, h₁⟩ := h₁
  refine wpC_bind (wpC_standAt (wpC_bind (wpC_holding (wpC_any (wpAny_mono h₁ (fun fx s₂ h₂ => ?_) fun _ _ e => e)))))
  obtain ⟨rfl, h₂⟩ := h₂
  show wpC M A (callWith pos (.builtin id) [_] _ []) Q E s₂
  unfold callWith
  refine wpC_bind (wpC_holding (wpC_any ?_))
  obtain ⟨y, r, hy⟩ := hx
  rw [hy] at h₂ hplain ⊢
  refine Calls.evalArgs_plain (wpAny_mono h₂ (fun vs s₃ h₃ => ?_) fun _ _ e => e)
  refine wpC_bind (wpC_standAt ?_)
  simp only [hplain, List.any_nil, Bool.or_false]
  refine wpC_bind (wpC_pure ?_)
  exact wpC_bind (wpC_mono h₃ (fun r s₂ hr => wpC_bind (wpC_holding (wpC_any (wpAny_point (wpC_pure hr))))) fun _ _ x => x)
theorem c_type0 {x : Str} {np pos : Pos} {T : String} {Q : Value → Shared → Prop} 
    (h : wpAny M A (eval (.Name x np) env) (fun fv s₁ => fv = .type T ∧ wpC M A (call (.type T) []) Q E s₁) E s)
    (he : eval (.Call (.Name x np) [] [] pos) env = (do callWith pos (← eval (.Name x np) env) [] (backTo pos (starEach [] env)) (backToKw pos (keywordEach [] env)))) :
    wpC M A (eval (.Call (.Name x np) [] [] pos) env) Q E s := by
  rw [he]
  refine wpC_bind (wpC_any (wpAny_mono h (fun fv s₁ h₁ => ?_) fun _ _ e => e))
  obtain ⟨rfl, h₁⟩ := h₁
  show wpC M A (callWith pos (.type T) [] [] []) Q E s₁
  unfold callWith
  refine wpC_bind (wpC_holding (wpC_any (PyProof.Rows.evalArgs_none ?_)))
  refine wpC_bind (wpC_standAt ?_)
  refine wpC_bind (wpC_pure ?_)
  exact wpC_bind (wpC_mono h₁ (fun r s₂ hr => wpC_bind (wpC_holding (wpC_any (wpAny_point (wpC_pure hr))))) fun _ _ x => x)
theorem c_isTrueCmp {l op r pos whole} {Q : Bool → Shared → Prop}
    (h : wpC M A (eval l env) (fun a s₁ => wpAny M A (eval r env) (fun b s₂ => wpAny M A (compareOp op a b) (fun c s₃ => wpAny M A (truthy c) Q E s₃) E s₂) E s₁) E s)
    (hm : behindInMarks op r = false) : wpC M A (isTrue (.Compare l [op] [r] pos) env whole) Q E s := by
  rw [isTrue_Compare1, markedBehindIn_of_false hm]
  refine wpC_bind (wpC_mono h (fun a s₁ h₁ => wpC_bind (wpC_holding (wpC_any (wpAny_mono h₁ (fun b s₂ h₂ => ?_) fun _ _ e => e)))) fun _ _ e => e)
  exact wpC_bind (wpC_standAt (wpC_bind (wpC_any (wpAny_operate' (wpAny_mono h₂ (fun c s₃ h₃ => wpC_any (wpAny_holding h₃)) fun _ _ e => e)))))
theorem c_isTrueOr {values : List Expr} {pos : Pos} {whole : Sem Value} {Q : Bool → Shared → Prop} (h : wpC M A (allTrue .Or values env) Q E s) :
    wpC M A (isTrue (.BoolOp .Or values pos) env whole) Q E s := h
theorem c_or {x : Expr} {rest : List Expr} {Q : Bool → Shared → Prop}
    (h : wpC M A (isTrue x env (eval x env)) (fun b s₁ => if b = true then Q true s₁ else wpC M A (allTrue .Or rest env) Q E s₁) E s) : wpC M A (allTrue .Or (x :: rest) env) Q E s := by
  rw [arm_allTrue_cons]
  refine wpC_bind (wpC_mono h (fun b s₁ h₁ => ?_) fun _ _ e => e)
  cases b with
  | true => exact wpC_pure (by simpa using h₁)
  | false => simpa using h₁
end
section
variable {prog : Program} {w : World} {A : Around} {E : Value → Shared → Prop} {s : Shared} {h : Heap} {tk : Nat} {env : Env}
theorem c_while {test body pos} {Q : Flow → Shared → Prop} (I : Nat → Shared → Prop) (n : Nat) (hI : I n s)
    (turn : ∀ n s, I n s → ∀ Q' : Flow → Shared → Prop, (∀ m s', m < n → I m s' → Q' .next s') → (∀ v s', Q (.ret v) s' → Q' (.ret v) s') → wpAny (model prog w) A (isTrue test env (eval test env)) (fun b s₂ => if b = true then wpC (model prog w) A (execs body env) Q' (fun _ _ => False) s₂ else Q .next s₂) (fun _ _ => False) s) :
    wpC (model prog w) A (exec (.While test body [] pos) env) Q E s := by
  rw [exec_While]
  refine wpC_bind (wpC_standAt ?_)
  unfold runOwn
  refine wpC_noted (wpC_run rfl ?_)
  refine codeC_loop rfl rfl I (fun n s hI => ?_) n hI
  show wpC _ A ((whileTurn test body [] env).onRaise _) _ _ s
  refine wpC_noted ?_
  unfold whileTurn
  refine wpC_bind (wpC_any (wpAny_mono (turn n s hI (Turn I n Q) (fun m s' hm h => ⟨m, hm, h⟩) (fun v s' h => h)) (fun b s₂ h₂ => ?_) fun _ _ h' => h'))
  cases b with
  | false =>
    simp only [Bool.false_eq_true, if_false] at h₂ ⊢
    exact wpC_bind (c_nil (wpC_pure h₂))
  | true =>
    simp only [if_true] at h₂ ⊢
    refine wpC_bind (wpC_mono h₂ (fun f s₃ h₃ => ?_) fun _ _ h' => h')
    cases f with
    | next => exact wpC_pure ⟨rfl, h₃⟩
    | cont => exact wpC_pure ⟨rfl, h₃⟩
    | brk => exact wpC_pure h₃
    | ret v => exact wpC_pure h₃
theorem codeC_func {body env} {R : Result → Shared → Prop} (h : wpC (model prog w) (A.deeper env) (execs body env) (fun f s' => R (.ok (.ret (match f with | .ret v => v | _ => .none))) s') (fun _ _ => False) s) :
    codeC (model prog w) A (.func body env) R s := by
  refine codeC_tree ?_
  show wpC _ (A.deeper env) (do point; match ← (execs body env).onRaise (leaving env) with | .ret v => ret v | _ => ret .none) _ _ s
  refine wpC_bind (wpC_any (wpAny_point (wpC_bind (wpC_noted (wpC_mono h (fun f s' h' => ?_) fun _ _ h' => h')))))
  cases f <;> exact wpC_pure h'
/-- a def's call, the stack clean -/
theorem codeC_call_function {a : Addr} {args : Args} {o : Obj} {fd : FuncData} {body : List Stmt} {R : Result → Shared → Prop} (hroom : A.depth < recursionLimit)
    (ho : s.heap.get? a = some o)
    (hd' : o.data = .func fd) (hco : fd.scope.isCoroutine = false) (hgen : fd.scope.isGenerator = false) (hbody : fd.body = .stmts body) (hcd : s.heap.CodeRec fd.code fd.qualname)
    (h : wpAny (model prog w) A.in1 (bindArgs fd args) (fun binds s₁ =>
      wpAny (model prog w) A.in1 (newFunctionEnv fd.scope fd.globals fd.closure binds (fd.qualname ++ ".<locals>.") (some a) fd.code none fd.builtins)
        (fun env s₂ => s₂.heap.NoLimit ∧ codeC (model prog w) A (.func body env) R s₂) (fun e s' => R (.error e) s') s₁) (fun e s' => R (.error e) s') s) :
    codeC (model prog w) A (.call (.ref a) args) R s := by
  refine codeC_tree (wpC_any ?_)
  show wpAny _ A.in1 (callAny (.ref a) args) _ _ s
  simp only [callAny]
  refine wpAny_bind (wpAny_load ho ?_)
  obtain ⟨c, oc, vs, tq, hc, hoc, hdc, hq⟩ := hcd
  simp only [hd', callFunction, hco, hgen, hbody, hc]
  rw [hc] at h
  refine wpAny_bind (m := field (.ref c) 1) (wpAny_field hoc hdc hq (wpAny_bind (wpAny_pure ?_)))
  exact wpAny_bind (wpAny_mono h (fun binds s₁ h₁ => wpAny_bind (wpAny_mono h₁ (fun env s₂ h₂ => wpAny_bind (wpAny_enterFrame h₂.1 hroom
    (wpAny_pure ⟨rfl, rfl, h₂.2⟩))) fun _ _ h' => h')) fun _ _ h' => h')
end
theorem enterC {w : World} {A : Around} {s : Shared} {h : Heap} {tk : Nat} {mean : ExcName → Option Value} {mg mb : Str → Option Value} {k : Nat}
    {name qual : Str} {params : Arguments} {body : List Stmt} {scope : Scope} {dV kV doc pm cdv ct oc : Value} {an od : Option Addr} {osl : Array (Option Value)} {f : Addr} {args : List Value} 
    {Q E : Value → Shared → Prop} (binds : List (Str × Value))
    (X : (hd.heap_39 w.params).In h) (T : TopM mean mg mb h) (R : Room (k + 1) A)
    (ho : (hd.heap_39 w.params).lookup f = some ⟨oc, od, .func (fnOf name qual params body scope dV kV doc pm an cdv ct), osl⟩) (hcd : codeIn (hd.heap_39 w.params) cdv qual = true)
    (hbind : bindArgs (fnOf name qual params body scope dV kV doc pm an cdv ct) ⟨args, []⟩ = pure binds) (hloc : ∀ y ∈ binds, scope.names.lookup y.1 = some .local) (hnd : nodupB (binds.map (·.1)) = true)
    (hh : ∀ L h₁ tk₁, Sx h L binds [] h₁ → Room k (A.deeper (envOf qual scope L f cdv)) →
      wpC (model Pr w) (A.deeper (envOf qual scope L f cdv)) (execs body (envOf qual scope L f cdv)) (RetQ Q) (fun _ _ => False) (St s h₁ tk₁))
    (hco : scope.isCoroutine = false) (hgen : scope.isGenerator = false) (hk : scope.kind = .function)
    (hcell : ∀ x ∈ scope.names, x.2 ≠ .cell) : wpC (model Pr w) A (call (.ref f) args) Q E (St s h tk) := by
  refine wpC_call ?_
  have hroom : A.depth < recursionLimit := by have := R.dp; show A.depth < 1000; omega
  refine codeC_call_function (fd := fnOf name qual params body scope dV kV doc pm an cdv ct) (body := body) hroom (X _ _ ho) rfl hco hgen rfl (codeRec_of X hcd) ?_
  rw [hbind]
  refine wpAny_pure (wpAny_newFunctionEnv hcell hloc (fun h₁ hns hsb => ⟨T.nolimit.fresh _ hsb, ?_⟩) hk)
  refine codeC_func ?_
  have hk₁ : Keeps h h₁ := fun b o e => hsb.extBut b o (Nat.ne_of_lt (Heap.lt_size e)) (Heap.get?_push_of_some _ e)
  exact wpC_mono (hh _ h₁ _ ⟨⟨_, ⟨hns, hk₁, Nat.le_refl _⟩, fun x v e => lookup_rev _ (nodup_of hnd) x v e⟩, News.nil, List.nodup_nil⟩ R.deeper) (fun _ _ x => x) (fun _ _ x => x)
end Mine
end
section
open PySem PySem.W PyProof.Rows
set_option maxRecDepth 100000
namespace Mine
section
variable {prog : Program} {w : World} {A : Around} {E : Value → Shared → Prop} {s : Shared} {h : Heap} {tk : Nat} {env : Env} {t u : Tok} {Q : Value → Shared → Prop}
theorem r_bidx {x : List UInt8} {i k : Int} {value slice : Expr} (hfit : x.length ≤ 1099511627776) (h0 : 0 ≤ i) (h1 : i < (x.length : Int)) (e : (((x.getD i.toNat 0).toNat : Nat) : Int) = k)
    (hq : ∀ t tk', Q (.int k t) (St s h tk'))
    (hs : subscripted slice false (.bytes x.toArray t) (.int i u) = operate [.bytes x.toArray t, .int i u] (getItem (.bytes x.toArray t) (.int i u)))
    (ht : ∀ r, letTemporaryGo value (.bytes x.toArray t) r = pure ()) : wpAny (model prog w) A (subscriptTail value slice (.bytes x.toArray t) (.int i u)) Q E (St s h tk) :=
  bytes_item_K hfit h0 h1 e (hq _ _) hs ht
end
section
variable {M : Model} {A : Around} {E : Value → Shared → Prop} {s : Shared} {h : Heap} {tk : Nat} {r : Addr} {b : Array UInt8} {pl : Sem Bool} {Q : Value × List Value → Shared → Prop}
theorem gm_append (ho : h.get? r = some (bobj b)) (hq : Q (.builtin "bytearray.append", [.ref r]) (St s h tk)) : wpAny M A (getMethod (.ref r) "append" pl) Q E (St s h tk) :=
  getMethod_builtin (s := St s h tk) ⟨_, ho, rfl⟩ Fc.ga_ba Fc.slot_append Fc.ty_append (fun a e => by cases e; exact ⟨_, ho, rfl⟩) hq
theorem gm_extend (ho : h.get? r = some (bobj b)) (hq : Q (.builtin "bytearray.extend", [.ref r]) (St s h tk)) : wpAny M A (getMethod (.ref r) "extend" pl) Q E (St s h tk) :=
  getMethod_builtin (s := St s h tk) ⟨_, ho, rfl⟩ Fc.ga_ba Fc.slot_extend Fc.ty_extend (fun a e => by cases e; exact ⟨_, ho, rfl⟩) hq
end
section
variable {prog : Program} {w : World} {A : Around} {E : Value → Shared → Prop} {s : Shared} {h : Heap} {tk : Nat}
theorem c_append {h₀ : Heap} {L l mu} {r : Addr} {b : Array UInt8} {c : Nat} {t : Tok} {Q : Value → Shared → Prop} (S : Sx h₀ L l ((r, bobj b) :: mu) h) (hc : c < 256) (hsz : b.size < sizeLine)
    (hq : ∀ h', Sx h₀ L l ((r, bobj (b.push c.toUInt8)) :: mu) h' → Q .none (St s h' tk)) : wpC (model prog w) A (call (.builtin "bytearray.append") [.ref r, .int c t]) Q E (St s h tk) :=
  ba_append (s := St s h tk) (S.get (.head _)) hc hsz fun h' hs hg => hq h' (S.upd hs hg)
theorem c_extend {h₀ : Heap} {L l mu} {r : Addr} {b m : Array UInt8} {t : Tok} {Q : Value → Shared → Prop} (S : Sx h₀ L l ((r, bobj b) :: mu) h) (hsz : b.size + m.size ≤ sizeLine)
    (hq : ∀ h', Sx h₀ L l ((r, bobj (b ++ m)) :: mu) h' → Q .none (St s h' tk)) : wpC (model prog w) A (call (.builtin "bytearray.extend") [.ref r, .bytes m t]) Q E (St s h tk) :=
  ba_extend (s := St s h tk) (S.get (.head _)) hsz fun h' hs hg => hq h' (S.upd hs hg)
theorem r_bytesBa {h₀ : Heap} {L l mu} {r : Addr} {b : Array UInt8} {Q : Value → Shared → Prop} (S : Sx h₀ L l mu h) (hm : (r, bobj b) ∈ mu) (hsz : b.size ≤ sizeLine)
    (hq : ∀ t tk', Q (.bytes b t) (St s h tk')) : wpAny (model prog w) A (call (.type "bytes") [.ref r]) Q E (St s h tk) :=
  call_bytes_ba (s := St s h tk) (S.get hm) hsz fun t k => hq t k
end
theorem get_size (h : Heap) : h.get? h.objs.size = none := by
  cases e : h.get? h.objs.size with
  | none => rfl
  | some o => exact absurd (Heap.lt_size e) (Nat.lt_irrefl _)
theorem Sx.new1 {h₀ h h' : Heap} {L l mu} {a : Addr} {o : Obj} (S : Sx h₀ L l mu h) (k : Keeps h h') (hg : h'.get? a = some o) (hn : h.get? a = none) : Sx h₀ L l ((a, o) :: mu) h' :=
  S.add (ob := [(a, o)]) k (fun p hp => by rw [List.mem_singleton.mp hp]; exact ⟨hg, hn⟩) (by simp)
def octs (ds : List Nat) : Array UInt8 := (ds.map fun d => (dig d).toUInt8).toArray
theorem octs_size (ds : List Nat) : (octs ds).size = ds.length := by simp [octs]
theorem octs_push (ds : List Nat) (d : Nat) : (octs ds).push (dig d).toUInt8 = octs (ds ++ [d]) := by simp [octs]
theorem octs_append (ds es : List Nat) : octs ds ++ octs es = octs (ds ++ es) := by simp [octs]
theorem dig_lt {d : Nat} (h : d < 36) : dig d < 256 := by unfold dig; split <;> omega
def digL : List UInt8 := [97, 98, 99, 100, 101, 102, 103, 104, 105, 106, 107, 108, 109, 110, 111, 112, 113, 114, 115, 116, 117, 118, 119, 120, 121, 122, 48, 49, 50, 51, 52, 53, 54, 55, 56, 57]
theorem digL_get : ∀ d, d < 36 → (digL.getD d 0).toNat = dig d := by decide
theorem digI {i : Int} {d : Nat} (e : i = d) (h : d < 36) : (((digL.getD i.toNat 0).toNat : Nat) : Int) = (dig d : Nat) := by
  subst e; rw [Int.toNat_natCast, digL_get d h]
theorem enc_len : ∀ (k N b j : Nat), N < 10 ^ k → (enc b j N).length ≤ k + 1 := by
  intro k
  induction k with
  | zero =>
    intro N b j h
    have : N < Tn j b := by have := Tn_lo j b; simp at h; omega
    rw [enc_small this]; simp
  | succ k ih =>
    intro N b j h
    by_cases hN : N < Tn j b
    · rw [enc_small hN]; simp
    · rw [enc_big hN, List.length_cons]
      have h1 := Tn_lo j b
      have h2 := Tn_hi j b
      have h3 : (N - Tn j b) / (36 - Tn j b) < 10 ^ k := by
        rw [Nat.div_lt_iff_lt_mul (by omega)]
        have : 10 ^ k * 10 ≤ 10 ^ k * (36 - Tn j b) := Nat.mul_le_mul_left _ (by omega)
        rw [Nat.pow_succ] at h
        omega
      have := ih _ b (j + 1) h3
      omega
end Mine
end
section
open PySem PySem.W PyProof.Rows
open PySem.Sem (wp)
set_option maxRecDepth 100000
namespace Mine
def lobj (vs : List Value) (n : Nat) : Obj := { cls := .type "list", data := .seq vs.toArray n }
def tobj (vs : List Value) : Obj := { cls := .type "tuple", data := .seq vs.toArray }
theorem isList_lobj {h : Heap} {a : Addr} {vs : List Value} {n : Nat} (e : h.get? a = some (lobj vs n)) : h.IsList a vs.toArray := ⟨_, e, rfl, _, rfl⟩
theorem isTuple_tobj {h : Heap} {a : Addr} {vs : List Value} (e : h.get? a = some (tobj vs)) : h.IsTuple a vs.toArray := ⟨_, e, rfl, _, rfl⟩
section
variable {M : Model} {A : Around} {E : Value → Shared → Prop} {s : Shared}
theorem codeC_loop' {c : Code} {R : Result → Shared → Prop} (hq : c.quiet = true) (hn : holdsNone c = true) (I : Nat → Shared → Prop)
    (turn : ∀ n s, I n s → wpC M (A.under c) (M.den c) (fun fin s' => match fin with | .done f => R (.ok f) s' | .again c' => (c' = c ∧ ∃ m, m < n ∧ I m s') ∨ (c'.quiet = true ∧ holdsNone c' = true ∧ codeC M A c' R s')) (fun e s' => R (.error e) s') s)
    (n : Nat) (h : I n s) : codeC M A c R s := by
  induction n using Nat.strongRecOn generalizing s with
  | ind n ih =>
    refine codeC_tree (wpC_mono (turn n s h) (fun fin s' hf => ?_) fun _ _ h' => h')
    cases fin with
    | done f => exact hf
    | again c' =>
      rcases hf with ⟨rfl, m, hm, hI⟩ | hf
      · exact ⟨hq, hn, ih m hm hI⟩
      · exact hf
end
section
variable {prog : Program} {w : World} {A : Around} {E : Value → Shared → Prop} {s : Shared} {h : Heap} {tk : Nat} {env : Env}
theorem codeC_forLoop {R : Result → Shared → Prop} {target it body} (I : Nat → Shared → Prop)
    (turn : ∀ n s, I n s → wpAny (model prog w) A (pyNext it) (fun r s₁ => match r with
      | none => R (.ok .next) s₁
      | some v => wpAny (model prog w) A (letOwnedTupleGo target it v) (fun _ s₁' =>
          wpAny (model prog w) A (assign target env v) (fun _ s₂ => wpC (model prog w) A (execs body env) (fun f s₃ => match f with
            | .next | .cont => ∃ m, m < n ∧ I m s₃
            | .brk => R (.ok .next) s₃
            | .ret v => R (.ok (.ret v)) s₃) (fun _ _ => False) s₂) (fun _ _ => False) s₁') (fun _ _ => False) s₁) (fun _ _ => False) s)
    (n : Nat) (h : I n s) : codeC (model prog w) A (.forLoop target it body [] env) R s := by
  refine codeC_loop' rfl rfl I (fun n s hI => ?_) n h
  show wpC _ A ((forTurn target it body [] env).onRaise _) _ _ s
  refine wpC_noted ?_
  unfold forTurn
  refine wpC_bind (wpC_standAt (wpC_bind (wpC_noted (wpC_any (wpAny_mono (turn n s hI) (fun r s₁ h₁ => ?_) fun _ _ h' => h')))))
  cases r with
  | none =>
    refine wpC_pure (.inr ⟨rfl, rfl, codeC_any ?_⟩)
    exact codeAny_block (wpAny_execs_nil h₁)
  | some v =>
    refine wpC_bind (wpC_any (wpAny_mono h₁ (fun _ s₁' h₁' => ?_) fun _ _ h' => h'))
    refine wpC_bind (wpC_any (wpAny_mono h₁' (fun _ s₂ h₂ => wpC_bind (wpC_mono h₂ (fun f s₃ h₃ => ?_) fun _ _ h' => h')) fun _ _ h' => h'))
    cases f with
    | next => exact wpC_pure (.inl ⟨rfl, h₃⟩)
    | cont => exact wpC_pure (.inl ⟨rfl, h₃⟩)
    | brk => exact wpC_pure h₃
    | ret v => exact wpC_pure h₃
def ForC (prog : Program) (w : World) (A : Around) (env : Env) (target : Expr) (body : List Stmt) (Q : Flow → Shared → Prop) (it : Value) (s : Shared) : Prop :=
  codeC (model prog w) A (.forLoop target it body [] env) (fun r s' => match r with | .ok f => Q f s' | .error _ => False) s
theorem c_for {target iter body pos} {Q : Flow → Shared → Prop}
    (k : wpAny (model prog w) A (eval iter env) (fun x s₁ => wpAny (model prog w) A (pyIter x) (fun it s₂ => ForC prog w A env target body Q it s₂) E s₁) E s)
    (hs : ∀ x, foldedSetIterable iter env x = pure x) : wpC (model prog w) A (exec (.For target iter body [] pos) env) Q E s := by
  rw [exec_For]
  refine wpC_bind (wpC_standAt (wpC_bind (wpC_any (wpAny_mono k (fun x s₁ h₁ => ?_) fun _ _ e => e))))
  rw [hs x]
  refine wpC_bind (wpC_pure (wpC_bind (wpC_standAt (wpC_bind (wpC_holding (wpC_any (wpAny_mono h₁ (fun it s₂ h₂ => ?_) fun _ _ e => e)))))))
  unfold runOwn
  unfold ForC at h₂
  refine wpC_noted (wpC_run (A := A) (h := none) rfl (codeC_mono (R := fun r s' => match r with | .ok f => Q f s' | .error _ => False) h₂ fun r s' hr => ?_))
  cases r <;> exact hr
def ForA (prog : Program) (w : World) (A : Around) (env : Env) (target : Expr) (body : List Stmt) (Q : Flow → Shared → Prop) (it : Value) (s : Shared) : Prop :=
  codeAny (model prog w) A (.forLoop target it body [] env) (fun r s' => match r with | .ok f => Q f s' | .error _ => False) s
theorem r_for {target iter body pos} {Q : Flow → Shared → Prop}
    (k : wpAny (model prog w) A (eval iter env) (fun x s₁ => wpAny (model prog w) A (pyIter x) (fun it s₂ => ForA prog w A env target body Q it s₂) E s₁) E s)
    (hs : ∀ x, foldedSetIterable iter env x = pure x) : wpAny (model prog w) A (exec (.For target iter body [] pos) env) Q E s :=
  wpAny_For (wpAny_mono k (fun _ _ h₁ => wpAny_mono h₁ (fun _ _ h₂ => codeAny_mono h₂ fun r s' hr => by cases r <;> first | exact hr | exact hr.elim) fun _ _ e => e) fun _ _ e => e) hs
/-- the end of a turn of a for: the iterators' entries stand behind -/
def TurnG (s : Shared) (h₀ : Heap) (L : Addr) (J : List (Str × Value) → List (Addr × Obj) → Prop) (its : List (Addr × Obj)) (Q : Flow → Shared → Prop) (f : Flow) (s₂ : Shared) : Prop :=
  match f with
  | .next | .cont => ∃ l mu h tk, s₂ = St s h tk ∧ J l mu ∧ Sx h₀ L l (mu ++ its) h
  | .brk => Q .next s₂
  | .ret v => Q (.ret v) s₂
theorem r_turnG {h₀ : Heap} {L : Addr} {J : List (Str × Value) → List (Addr × Obj) → Prop} {its : List (Addr × Obj)} {Q : Flow → Shared → Prop} {l mu} (S : Sx h₀ L l (mu ++ its) h) (hj : J l mu) : TurnG s h₀ L J its Q .next (St s h tk) := ⟨l, mu, h, tk, rfl, hj, S⟩
theorem r_turnGR {h₀ : Heap} {L : Addr} {J : List (Str × Value) → List (Addr × Obj) → Prop} {its : List (Addr × Obj)} {Q : Flow → Shared → Prop} {v : Value} (k : Q (.ret v) s) {s0 : Shared} : TurnG s0 h₀ L J its Q (.ret v) s := k
theorem perm1 {x : Addr × Obj} {mu : List (Addr × Obj)} : (mu ++ [x]).Perm (x :: mu) := List.perm_append_comm
theorem perm2 {x y : Addr × Obj} {mu : List (Addr × Obj)} : (mu ++ [x, y]).Perm (x :: y :: mu) := List.perm_append_comm
def enumO (it : Addr) (i : Int) (old : Value) : Obj := { cls := .type "enumerate", dict := none, data := .fields #[.none, .bool false, .ref it, rawInt i, .none, old], slots := #[] }
theorem r_enum {h₀ : Heap} {L l mu} {a : Addr} {vs : List Value} {n : Nat} {Q : Value → Shared → Prop} (S : Sx h₀ L l mu h) (ha : h.get? a = some (lobj vs n))
    (hq : ∀ e it oi h', Sx h₀ L l ((e, enumO it 0 .none) :: (it, oi) :: mu) h' → h'.IsListIter it a 0 → Q (.ref e) (St s h' tk)) :
    wpAny (model prog w) A (call (.type "enumerate") [.ref a]) Q E (St s h tk) := by
  refine call_enumerate_list (s := St s h tk) (isList_lobj ha) fun h' he hit hz hk => ?_
  obtain ⟨oi, hoi, _⟩ := id hit
  have n1 : h.get? (h.objs.size + 1) = none := by
    cases e : h.get? (h.objs.size + 1) with
    | none => rfl
    | some o => exact absurd (Heap.lt_size e) (Nat.not_lt.mpr (Nat.le_succ _))
  refine hq _ _ oi h' (S.add (ob := [(h.objs.size + 1, enumO h.objs.size 0 .none), (h.objs.size, oi)]) hk (fun p hp => ?_) (by simp)) hit
  rcases List.mem_cons.mp hp with rfl | hp
  · exact ⟨he, n1⟩
  · rw [List.mem_singleton.mp hp]; exact ⟨hoi, get_size h⟩
theorem r_iterEnum {it : Addr} {e : Addr} {i : Int} {old : Value} {Q : Value → Shared → Prop} (he : h.get? e = some (enumO it i old)) (hq : Q (.ref e) (St s h tk)) : wpAny (model prog w) A (pyIter (.ref e)) Q E (St s h tk) :=
  wpAny_pyIter_enum (s := St s h tk) he hq
theorem sx_two {h₀ h h' : Heap} {L l mu} {e it : Addr} {o1 o2 o1' o2' : Obj} (S : Sx h₀ L l ((e, o1) :: (it, o2) :: mu) h) (hk : ∀ b o, b ≠ e → b ≠ it → h.get? b = some o → h'.get? b = some o)
    (h1 : h'.get? e = some o1') (h2 : h'.get? it = some o2') : Sx h₀ L l ((e, o1') :: (it, o2') :: mu) h' := by
  obtain ⟨m, F, hl⟩ := S.fr
  have D1 := S.nw (e, o1) (.head _)
  have D2 := S.nw (it, o2) (.tail _ (.head _))
  obtain ⟨oL, es, ep, hL, r⟩ := F.ns
  have nd1 := List.nodup_cons.mp S.nd
  have nd2 := List.nodup_cons.mp nd1.2
  refine ⟨⟨m, ⟨⟨oL, es, ep, hk L _ (Ne.symm D1.2.1) (Ne.symm D2.2.1) hL, r⟩, fun b x q => hk b x (fun z => ?_) (fun z => ?_) (F.keep b x q), F.above⟩, hl⟩, fun p hp => ?_, S.nd⟩
  · have := D1.2.2; rw [← z, q] at this; cases this
  · have := D2.2.2; rw [← z, q] at this; cases this
  · rcases List.mem_cons.mp hp with rfl | hp
    · exact ⟨h1, D1.2⟩
    · rcases List.mem_cons.mp hp with rfl | hp
      · exact ⟨h2, D2.2⟩
      · have P := S.nw p (.tail _ (.tail _ hp))
        refine ⟨hk _ _ (fun z => nd1.1 ?_) (fun z => nd2.1 ?_) P.1, P.2⟩
        · rw [← z]; exact List.mem_map_of_mem (f := (·.1)) (.tail _ hp)
        · rw [← z]; exact List.mem_map_of_mem (f := (·.1)) hp
theorem r_unpack2 {h₀ : Heap} {L l mu} {e1 e2 : Expr} {k pos} {t : Addr} {v1 v2 : Value} {Q : Unit → Shared → Prop} (hh : A.handled = none) (S : Sx h₀ L l mu h) (ht : h.get? t = some (tobj [v1, v2]))
    (hq : ∀ h', Sx h₀ L l mu h' → Keeps h h' → wpAny (model prog w) A (assign e1 env v1) (fun _ s₁ => wpAny (model prog w) A (assign e2 env v2) Q E s₁) E (St s h' tk))
    (hl : (assignEach [e1, e2] env) = [(false, assign e1 env), (false, assign e2 env)]) : wpAny (model prog w) A (assign (.Tuple [e1, e2] k pos) env (.ref t)) Q E (St s h tk) := by
  refine wpAny_assign_Tuple (s := St s h tk) hh (isTuple_tobj ht) (by rw [hl]; rfl) (by rw [hl]; rfl) fun h' hx => ?_
  have hk : Keeps h h' := fun b o e => hx b o (Nat.ne_of_lt (Heap.lt_size e)) e
  rw [hl]
  refine wpAny_assignInOrder_more (wpAny_mono (hq h' (S.grow hk) hk) (fun _ s₁ h₁ => wpAny_assignInOrder_more (wpAny_mono h₁ (fun _ s₂ h₂ => wpAny_assignInOrder_none h₂) fun _ _ e => e)) fun _ _ e => e)
theorem c_forEnum {xi xv : Str} {pi pv pt : Pos} {x1} {body : List Stmt} {Q : Flow → Shared → Prop} {h₀ : Heap} {L l mu} {a e it : Addr} {oi : Obj} {vs : List Value} {ep : Nat} (hh : A.handled = none)
    (S : Sx h₀ L l ((e, enumO it 0 .none) :: (it, oi) :: mu) h) (hit : h.IsListIter it a 0) (ha : h₀.get? a = some (lobj vs ep))
    (hL : env.locals = L) (hk : env.scope.kind = .function) (hxi : env.kindOf xi = some .local) (hxv : env.kindOf xv = some .local)
    (he2 : (assignEach [.Name xi pi, .Name xv pv] env) = [(false, assign (.Name xi pi) env), (false, assign (.Name xv pv) env)])
    (J : Nat → List (Str × Value) → List (Addr × Obj) → Prop) (hj : J 0 l mu)
    (turn : ∀ i v t l' mu' its h' tk', vs[i]? = some v → J i l' mu' → Sx h₀ L ((xv, v) :: (xi, .int (i : Nat) t) :: l') (mu' ++ its) h' → ∀ Q' : Flow → Shared → Prop, (∀ {l mu h tk}, Sx h₀ L l (mu ++ its) h → J (i + 1) l mu → Q' .next (St s h tk)) →
      wpC (model prog w) A (execs body env) Q' (fun _ _ => False) (St s h' tk'))
    (done : ∀ l' mu' h' tk', J vs.length l' mu' → Sx h₀ L l' mu' h' → Q .next (St s h' tk')) :
    ForC prog w A env (.Tuple [.Name xi pi, .Name xv pv] x1 pt) body Q (.ref e) (St s h tk) := by
  have hne : e ≠ it := fun q => (List.nodup_cons.mp S.nd).1 (by rw [q]; exact .head _)
  refine codeC_forLoop (fun k s' => ∃ i old l' mu' oi h' tk', s' = St s h' tk' ∧ i ≤ vs.length ∧ k = vs.length - i ∧ J i l' mu' ∧ h'.IsListIter it a i ∧ Sx h₀ L l' ((e, enumO it (i : Nat) old) :: (it, oi) :: mu') h') ?_ vs.length
    ⟨0, .none, l, mu, oi, h, tk, rfl, Nat.zero_le _, rfl, hj, hit, S⟩
  rintro k s' ⟨i, old, l', mu', oi, h', tk', rfl, hi, rfl, hJ, hit', S'⟩
  have ha' : h'.IsList a vs.toArray := isList_lobj (S'.keep _ _ ha)
  have he' : h'.get? e = some (enumO it (i : Nat) old) := S'.get (.head _)
  cases hv : vs[i]? with
  | none =>
    have hsz : i = vs.length := Nat.le_antisymm hi (by simpa using hv)
    refine wpAny_pyNext_enum_end (s := St s h' tk') hh he' hit' ha' (by simpa using hv) fun h₁ he₁ => ?_
    subst hsz
    exact done l' mu' h₁ tk' hJ (((S'.drop (List.sublist_cons_self _ _)).off fun b ob hb q => he₁ b ob hb q))
  | some v =>
    have hlt : i < vs.length := (List.getElem?_eq_some_iff.mp hv).1
    refine wpAny_pyNext_enum_item (s := St s h' tk') he' hit' ha' (x := v) (by simpa using hv) hne fun h₁ heo hit₁ ht₁ hz₁ hk₁ => ?_
    obtain ⟨oi₁, hoi₁, _⟩ := id hit₁
    have S₁ := sx_two S' hk₁ heo hoi₁
    refine wpAny_letOwnedTupleGo_enum (s := St s h₁ (tk' + 1)) heo fun h₂ he₂ hs₂ => ?_
    have S₂ : Sx h₀ L l' ((e, enumO it ((i : Int) + 1) v) :: (it, oi₁) :: mu') h₂ := S₁.upd hs₂ he₂
    have hte : h'.objs.size ≠ e := fun q => absurd (Heap.lt_size he') (by rw [q]; exact Nat.lt_irrefl _)
    have ht₂ : h₂.get? h'.objs.size = some (tobj [.int (i : Nat) tk', v]) := (hs₂.2 _ hte).trans ht₁
    have hit₂ : h₂.IsListIter it a (i + 1) := hit₁.extBut hs₂.extBut (Ne.symm hne)
    refine r_unpack2 (tk := tk' + 1) hh S₂ ht₂ (fun h₃ S₃ hk₃ => ?_) he2
    refine wpAny_assign_Name (r_store S₃ hL hk hxi fun h₄ tk₄ S₄ => ?_)
    refine wpAny_assign_Name (r_store S₄ hL hk hxv fun h₅ tk₅ S₅ => ?_)
    refine wpC_mono (turn i v tk' l' mu' [(e, enumO it ((i : Int) + 1) v), (it, oi₁)] h₅ tk₅ hv hJ (S₅.perm perm2) (TurnG s h₀ L (J (i + 1)) [(e, enumO it ((i : Int) + 1) v), (it, oi₁)] Q) r_turnG) (fun f s₃ hf => ?_) fun _ _ x => x
    have step : (∃ l mu h tk, s₃ = St s h tk ∧ J (i + 1) l mu ∧ Sx h₀ L l (mu ++ [(e, enumO it ((i : Int) + 1) v), (it, oi₁)]) h) → ∃ m, m < vs.length - i ∧ ∃ i old l' mu' oi h' tk', s₃ = St s h' tk' ∧ i ≤ vs.length ∧ m = vs.length - i ∧ J i l' mu' ∧ h'.IsListIter it a i ∧ Sx h₀ L l' ((e, enumO it (i : Nat) old) :: (it, oi) :: mu') h' := by
      rintro ⟨l₆, mu₆, h₆, tk₆, rfl, hJ₆, S₆⟩
      have S₆' := S₆.perm perm2.symm
      refine ⟨vs.length - (i + 1), by omega, i + 1, v, l₆, mu₆, oi₁, h₆, tk₆, rfl, hlt, rfl, hJ₆, ?_, ?_⟩
      · obtain ⟨o, ho, r1, r2⟩ := hit₂
        have e5 := S₂.get (a := it) (.tail _ (.head _))
        rw [ho] at e5; cases e5
        exact ⟨_, S₆'.get (.tail _ (.head _)), r1, r2⟩
      · have : ((i + 1 : Nat) : Int) = (i : Int) + 1 := by push_cast; rfl
        rw [this]; exact S₆'
    cases f with
    | next => exact step hf
    | cont => exact step hf
    | brk => exact hf
    | ret v => exact hf
end
end Mine
end
section
open PySem PySem.W PyProof.Rows
open PySem.Sem (wp)
set_option maxRecDepth 100000
namespace Mine
theorem r_same {α : Type} {v : α} {P : Prop} (k : P) : v = v ∧ P := ⟨rfl, k⟩
section
variable {M : Model} {A : Around} {E : Value → Shared → Prop} {s : Shared} {env : Env}
theorem c_callK {K : Frag} {x : Str} {np pos : Pos} {args : List Expr} {f : Addr} {Q : Value → Shared → Prop} (hk : keepIn K (.ref f) = true)
    (h : wpAny M A (eval (.Name x np) env) (fun fv s₁ => fv = .ref f ∧ wpAny M A (spliced (backTo pos (starEach args env))) (fun vs s₂ => K.In s₂.heap ∧ wpC M A (call (.ref f) vs) Q E s₂) E s₁) E s)
    (he : eval (.Call (.Name x np) args [] pos) env = (do callWith pos (← eval (.Name x np) env) [] (backTo pos (starEach args env)) (backToKw pos (keywordEach [] env))))
    (hx : ∃ y r, backTo pos (starEach args env) = (false, y) :: r) (hplain : (backTo pos (starEach args env)).any (·.1) = false) :
    wpC M A (eval (.Call (.Name x np) args [] pos) env) Q E s := by
  rw [he]
  refine wpC_bind (wpC_any (wpAny_mono h (fun fv s₁ h₁ => ?_) fun _ _ e => e))
  obtain ⟨rfl, h₁⟩ := h₁
  show wpC M A (callWith pos (.ref f) [] (backTo pos (starEach args env)) []) Q E s₁
  unfold callWith
  refine wpC_bind (wpC_holding (wpC_any ?_))
  obtain ⟨y, r, hy⟩ := hx
  rw [hy] at h₁ hplain ⊢
  refine Calls.evalArgs_plain (wpAny_mono h₁ (fun vs s₂ h₂ => ?_) fun _ _ e => e)
  obtain ⟨hX, h₂⟩ := h₂
  refine wpC_bind (wpC_standAt ?_)
  simp only [hplain, List.any_nil, Bool.or_false]
  obtain ⟨k, hk', Lk⟩ := keeps_K (M := M) hk _ hX
  have tail : ∀ {t : Sem Value}, wpC M A t Q E s₂ → wpC M A (t >>= fun r => holding [r] point >>= fun _ => pure r) Q E s₂ :=
    fun ht => wpC_bind (wpC_mono ht (fun r s₂ hr => wpC_bind (wpC_holding (wpC_any (wpAny_point (wpC_pure hr))))) fun _ _ x => x)
  have marked (mk : Value) : wpC M A (callMarked mk (.ref f) vs []) Q E s₂ := fun Γ p hΓ hc => by
    unfold callMarked
    rw [Sem.wp_keep]; exact h₂ Γ p hΓ hc
  refine wpC_bind (wpC_any (Lk.here ?_))
  rcases hk' with rfl | rfl | rfl <;> dsimp only <;> first | exact tail h₂ | (split <;> first | exact tail h₂ | exact tail (marked _))
end
end Mine
end
section
open PySem PySem.W PyProof PyProof.Rows
open PySem.Sem (wp)
set_option maxRecDepth 100000
namespace Mine
section
variable {prog : Program} {w : World} {A : Around} {E : Value → Shared → Prop} {s : Shared} {h : Heap} {tk : Nat} {env : Env} {t u : Tok} {Q : Value → Shared → Prop}
theorem o_chr {i : Int} {c : Nat} (e : i = (c : Nat)) (h1 : c ≤ 1114111) (hq : ∀ t tk', Q (.str ⟨#[c]⟩ t) (St s h tk')) : wpAny (model prog w) A (call (.builtin "chr") [.int i t]) Q E (St s h tk) := by
  subst e
  exact chr_of_range (s := St s h tk) (by omega) (by omega) (by simpa using hq _ _)
theorem o_ord {c : Nat} (hq : Q (.int (c : Nat) tk) (St s h (tk + 1))) : wpAny (model prog w) A (call (.builtin "ord") [.str ⟨#[c]⟩ t]) Q E (St s h tk) :=
  P.ord_of_char (s := St s h tk) hq
theorem o_lenS {x : Str} (hf : x.length ≤ 16777216) (hq : ∀ t tk', Q (.int (x.length : Nat) t) (St s h tk')) : wpAny (model prog w) A (call (.builtin "len") [.str x t]) Q E (St s h tk) :=
  PyProof.Rows.len_str (s := St s h tk) (by omega) (hq _ _)
theorem o_eqS {x y : Str} (hq : Q (.bool (x == y)) (St s h tk)) : wpAny (model prog w) A (compareOp .Eq (.str x t) (.str y u)) Q E (St s h tk) := PyProof.Rows.eq_str hq
theorem o_neS {x y : Str} (hq : Q (.bool (x != y)) (St s h tk)) : wpAny (model prog w) A (compareOp .NotEq (.str x t) (.str y u)) Q E (St s h tk) := PyProof.Rows.ne_str hq
theorem o_inS {x y : Str} {c : Nat} (hy : y = ⟨#[c]⟩) (hq : Q (.bool (decide (c ∈ x.cps.toList))) (St s h tk)) : wpAny (model prog w) A (compareOp .In (.str y u) (.str x t)) Q E (St s h tk) := by
  subst hy
  exact PyProof.Rows.in_str (s := St s h tk) (by rw [StrLaws.found_one]; exact hq)
theorem o_addS {x y : Str} (hs : x.length + y.length ≤ 16777216) (hq : ∀ t tk', Q (.str (x ++ y) t) (St s h tk')) : wpAny (model prog w) A (binaryOp .Add (.str x t) (.str y u)) Q E (St s h tk) :=
  PyProof.Rows.add_str (s := St s h tk) (fun t' k => hq _ _) (by rw [sizeLine_eq]; exact hs)
theorem o_itemS {value slice : Expr} {x : Str} {i : Int} {n c : Nat} (e : i = (n : Nat)) (hn : n < x.length) (hc : x.cps[n]? = some c) (hf : n < 1099511627776) (hq : ∀ t tk', Q (.str ⟨#[c]⟩ t) (St s h tk'))
    (hs : ∀ u, subscripted slice false (.str x t) (.int i u) = operate [.str x t, .int i u] (getItem (.str x t) (.int i u)))
    (ht : ∀ r, letTemporaryGo value (.str x t) r = pure ()) : wpAny (model prog w) A (subscriptTail value slice (.str x t) (.int i u)) Q E (St s h tk) := by
  subst e
  refine item_str (s := St s h tk) ?_ (by omega) (by omega) (fun _ => ?_) (hs u) ht
  · simp only [fitsSsize, Bool.not_eq_true', Bool.or_eq_false_iff, decide_eq_false_iff_not]; constructor <;> omega
  · have : Txt.item x (n : Int) = ⟨#[c]⟩ := by
      unfold Txt.item Txt.charAt
      have : seqIndex? (n : Int) x.length = some n := by
        unfold seqIndex?; simp; omega
      rw [this]; simp [hc]
    rw [this]; exact hq _ _
end
section
variable {prog : Program} {w : World} {A : Around} {E : Value → Shared → Prop} {s : Shared} {h : Heap} {tk : Nat} {env : Env}
theorem r_try {body : List Stmt} {h₀ : ExceptHandler} {hs : List ExceptHandler} {pos : Pos} {Q : Flow → Shared → Prop}
    (k : wpAny (model prog w) A (execs body env) Q (fun _ _ => False) s) : wpAny (model prog w) A (exec (.Try body (h₀ :: hs) [] [] pos) env) Q E s := by
  refine wpAny_Try_except (wpAny_mono k (fun f s₁ hf => ?_) fun _ _ f => f.elim)
  cases f <;> first | exact hf | exact wpAny_execs_nil hf
end
theorem sx_kept {h₀ : Heap} {L l mu} : KeptH (Sx h₀ L l mu) := fun _ ob S => (S.grow fun _ _ e => Heap.get?_push_of_some ob e)
end Mine
end
section
open PySem PySem.W PyProof PyProof.Rows
open PySem.Sem (wp)
set_option maxRecDepth 100000
namespace Mine
section
variable {M : Model} {A : Around} {E : Value → Shared → Prop} {s : Shared} {env : Env}
def MethK (M : Model) (A : Around) (env : Env) (pos : Pos) (args : List Expr) (Q : Value → Shared → Prop) (E : Value → Shared → Prop) (ov : Value) (fx : Value × List Value) (s : Shared) : Prop :=
  ∃ id, fx = (.builtin id, [ov]) ∧ wpAny M A (spliced (backTo pos (starEach args env))) (fun vs s₃ => wpAny M A (call (.builtin id) (ov :: vs)) Q E s₃) E s
theorem r_methK {pos : Pos} {args : List Expr} {Q : Value → Shared → Prop} {ov : Value} {id : String} (k : wpAny M A (spliced (backTo pos (starEach args env))) (fun vs s₃ => wpAny M A (call (.builtin id) (ov :: vs)) Q E s₃) E s) :
    MethK M A env pos args Q E ov (.builtin id, [ov]) s := ⟨id, rfl, k⟩
theorem r_method {o : Expr} {name : Str} {apos pos : Pos} {args : List Expr} {pl : Sem Bool} {Q : Value → Shared → Prop}
    (h : wpAny M A (eval o env) (fun ov s₁ => wpAny M A (getMethod ov name pl) (MethK M A env pos args Q E ov) E s₁) E s)
    (he : eval (.Call (.Attribute o name apos) args [] pos) env = (do
      let ov ← eval o env
      standAt apos.atName
      let (f, first) ← holding [ov] (getMethod ov name pl)
      callWith pos f first (backTo pos (starEach args env)) []))
    (hx : (backTo pos (starEach args env)) = [] ∨ ∃ y r, backTo pos (starEach args env) = (false, y) :: r) (hplain : (backTo pos (starEach args env)).any (·.1) = false) :
    wpAny M A (eval (.Call (.Attribute o name apos) args [] pos) env) Q E s := by
  rw [he]
  refine wpAny_bind (wpAny_mono h (fun ov s₁ h₁ => ?_) fun _ _ e => e)
  refine wpAny_bind (wpAny_standAt (wpAny_bind (wpAny_holding (wpAny_mono h₁ (fun fx s₂ h₂ => ?_) fun _ _ e => e))))
  obtain ⟨id, rfl, h₂⟩ := h₂
  show wpAny M A (callWith pos (.builtin id) [_] _ []) Q E s₂
  unfold callWith
  refine wpAny_bind (wpAny_holding ?_)
  rcases hx with hy | ⟨y, r, hy⟩
  · rw [hy] at h₂ hplain ⊢
    refine PyProof.Rows.evalArgs_none ?_
    refine wpAny_bind (wpAny_standAt ?_)
    simp only [hplain, List.any_nil, Bool.or_false]
    refine wpAny_bind (wpAny_pure ?_)
    have h₃ : wpAny M A (call (.builtin id) [ov]) Q E s₂ := fun Γ p hΓ => h₂ Γ p hΓ Γ p hΓ
    exact wpAny_bind (wpAny_mono h₃ (fun r s₂ hr => wpAny_bind (wpAny_holding (wpAny_point (wpAny_pure hr)))) fun _ _ x => x)
  · rw [hy] at h₂ hplain ⊢
    refine Calls.evalArgs_plain (wpAny_mono h₂ (fun vs s₃ h₃ => ?_) fun _ _ e => e)
    refine wpAny_bind (wpAny_standAt ?_)
    simp only [hplain, List.any_nil, Bool.or_false]
    refine wpAny_bind (wpAny_pure ?_)
    exact wpAny_bind (wpAny_mono h₃ (fun r s₂ hr => wpAny_bind (wpAny_holding (wpAny_point (wpAny_pure hr)))) fun _ _ x => x)
end
/-- each sign c written as z -/
def rep (c : Nat) (z l : List Nat) : List Nat := l.flatMap fun d => if d = c then z else [d]
theorem rep_free {c : Nat} {z : List Nat} : ∀ {l : List Nat}, c ∉ l → rep c z l = l
  | [], _ => rfl
  | d :: r, hn => by
    have h1 : d ≠ c := fun e => hn (e ▸ .head _)
    show (if d = c then z else [d]) ++ rep c z r = _
    rw [if_neg h1, rep_free fun m => hn (.tail _ m)]; rfl
theorem rep_app {c : Nat} {z l r : List Nat} : rep c z (l ++ r) = rep c z l ++ rep c z r := List.flatMap_append
theorem rep_join (c : Nat) (z : Str) : ∀ parts : List Str, (∀ p ∈ parts, c ∉ p.cps.toList) → rep c z.cps.toList (Str.join ⟨#[c]⟩ parts).cps.toList = (Str.join z parts).cps.toList
  | [], _ => rfl
  | [p], h => rep_free (h p (List.mem_singleton.mpr rfl))
  | p :: q :: r, h => by
    have ih := rep_join c z (q :: r) fun a ha => h a (List.mem_cons_of_mem _ ha)
    show rep c z.cps.toList (p ++ ⟨#[c]⟩ ++ Str.join ⟨#[c]⟩ (q :: r)).cps.toList = (p ++ z ++ Str.join z (q :: r)).cps.toList
    simp only [Str.cps_append, Array.toList_append, rep_app]
    rw [ih, rep_free (h p (List.mem_cons_self ..))]
    simp [rep]
theorem replace_rep (x z : Str) (c : Nat) : (Txt.replace x ⟨#[c]⟩ z).cps.toList = rep c z.cps.toList x.cps.toList := by
  rw [StrLaws.replace_one, ← rep_join c z _ (StrLaws.split_free x c), StrLaws.join_split]
theorem replace_is (x : List Nat) (z : Str) (c : Nat) : Txt.replace ⟨x.toArray⟩ ⟨#[c]⟩ z = ⟨(rep c z.cps.toList x).toArray⟩ := by
  have h := replace_rep ⟨x.toArray⟩ z c
  generalize Txt.replace ⟨x.toArray⟩ ⟨#[c]⟩ z = r at h
  obtain ⟨⟨l⟩⟩ := r
  have e : l = rep c z.cps.toList x := h
  rw [e]
theorem rep_len (c : Nat) (z : List Nat) : ∀ l : List Nat, z.length ≤ 6 → (rep c z l).length ≤ 6 * l.length
  | [], _ => Nat.le_refl _
  | d :: r, hz => by
    have ih := rep_len c z r hz
    show ((if d = c then z else [d]) ++ rep c z r).length ≤ _
    rw [List.length_append, List.length_cons]
    split
    · omega
    · simp only [List.length_cons, List.length_nil]; omega
section
variable {prog : Program} {w : World} {A : Around} {E : Value → Shared → Prop} {s : Shared} {h : Heap} {tk : Nat} {env : Env} {Q : Flow → Shared → Prop}
/-- if 'c' in text: text = text.replace('c', 'z') -/
theorem esc_step {h₀ : Heap} {L : Addr} {t0 : Tok} {y z : Str} {c : Nat} {pl : Sem Bool} {zl : List Nat} {x : List Nat} {k1 k2 k3 : Nat} {p1 p2 p3 p4 p5 p6 p7 p8 p9 p10 p11 : Pos} (S : Sx h₀ L [("text", .str ⟨x.toArray⟩ t0)] [] h)
    (hy : y = ⟨#[c]⟩) (hz : z = ⟨zl.toArray⟩) (hyz : (y == z) = false) (hzl : zl.length ≤ 6) (hx : x.length ≤ 1000000)
    (hL : env.locals = L) (hk : env.scope.kind = .function) (hl : env.kindOf "text" = some .local)
    (hm : behindInMarks .In (.Name "text" p2) = false)
    (he : eval (.Call (.Attribute (.Name "text" p5) "replace" p6) [.Constant (.str y) k2 p7, .Constant (.str z) k3 p8] [] p9) env = (do
      let ov ← eval (.Name "text" p5) env
      standAt p6.atName
      let (f, first) ← holding [ov] (getMethod ov "replace" pl)
      callWith p9 f first (backTo p9 (starEach [.Constant (.str y) k2 p7, .Constant (.str z) k3 p8] env)) []))
    (hst : swapsWith (.Call (.Attribute (.Name "text" p5) "replace" p6) [.Constant (.str y) k2 p7, .Constant (.str z) k3 p8] [] p9) (some (.Name "text" p4)) p10.line env = pure false)
    (k : ∀ t h' tk', Sx h₀ L [("text", .str ⟨(rep c zl x).toArray⟩ t)] [] h' → Q .next (St s h' tk')) :
    wpAny (model prog w) A (exec (.If (.Compare (.Constant (.str y) k1 p1) [.In] [.Name "text" p2] p3) [.Assign [.Name "text" p4] (.Call (.Attribute (.Name "text" p5) "replace" p6) [.Constant (.str y) k2 p7, .Constant (.str z) k3 p8] [] p9) p10] [] p11) env) Q E (St s h tk) := by
  subst hy hz
  refine wpAny_If (wpAny_isTrue_Compare1 ?_ hm)
  refine Calls.Constant_str ?_
  refine r_local (tk := tk + 1) S rfl hL hk hl rfl ?_
  refine o_inS rfl ?_
  refine wpAny_truthy_bool ?_
  by_cases hc : c ∈ x
  · have : decide (c ∈ (⟨x.toArray⟩ : Str).cps.toList) = true := by simpa using hc
    rw [this, if_pos rfl]
    refine wpAny_execs_cons (wpAny_Assign_Name ?_ hst)
    refine r_method ?_ he (.inr ⟨_, _, rfl⟩) rfl
    refine r_local (tk := tk + 1) S rfl hL hk hl rfl ?_
    refine GM.replace ?_
    refine r_methK ?_
    refine spliced_more (Calls.Constant_str ?_) rfl
    refine spliced_more (Calls.Constant_str ?_) rfl
    refine spliced_none ?_
    refine SC.replaceW (s := St s h (tk + 3)) (u := tk + 1) (v := tk + 2) (Nat.succ_ne_zero _) (Nat.succ_ne_zero _) (Nat.ne_of_lt (Nat.lt_succ_self _)) hyz ?_ ?_ ?_
    · simp [Str.length]; omega
    · simp [Str.length]; omega
    intro t' k'
    rw [replace_is]
    refine r_store (tk := k') S hL hk hl fun h' tk' S' => ?_
    exact wpAny_execs_nil (k _ _ _ (S'.sub (by intro p hp; cases hp with | head => rfl | tail _ h => cases h)))
  · have : decide (c ∈ (⟨x.toArray⟩ : Str).cps.toList) = false := by simpa using hc
    rw [this, if_neg Bool.false_ne_true]
    refine wpAny_execs_nil ?_
    exact k _ _ _ ((rep_free hc).symm ▸ S)
end
theorem lit38 : Str.ofString "&" = ⟨#[38]⟩ := by decide +kernel
theorem lit60 : Str.ofString "<" = ⟨#[60]⟩ := by decide +kernel
theorem lit62 : Str.ofString ">" = ⟨#[62]⟩ := by decide +kernel
theorem lit34 : Str.ofString "\"" = ⟨#[34]⟩ := by decide +kernel
theorem lit13 : Str.ofString "\r" = ⟨#[13]⟩ := by decide +kernel
theorem lit10 : Str.ofString "\n" = ⟨#[10]⟩ := by decide +kernel
theorem lit9 : Str.ofString "\t" = ⟨#[9]⟩ := by decide +kernel
theorem o_eq1 {prog : Program} {w : World} {A : Around} {E : Value → Shared → Prop} {s : Shared} {h : Heap} {tk : Nat} {t u : Tok} {Q : Value → Shared → Prop} {c d : Nat} {y : Str} (hy : y = ⟨#[d]⟩) (hq : Q (.bool (decide (c = d))) (St s h tk)) :
    wpAny (model prog w) A (compareOp .Eq (.str ⟨#[c]⟩ t) (.str y u)) Q E (St s h tk) := by
  subst hy
  refine o_eqS ?_
  have : ((⟨#[c]⟩ : Str) == ⟨#[d]⟩) = decide (c = d) := by
    by_cases e : c = d
    · subst e; simp
    · have : ((⟨#[c]⟩ : Str) == ⟨#[d]⟩) = false := by
        apply Bool.eq_false_iff.mpr; intro hh; have e1 := eq_of_beq hh; injection e1 with e2; simp at e2; exact e e2
      rw [this]; simp [e]
  rw [this]; exact hq
end Mine
end
section
open PySem PySem.W PyProof PyProof.Rows
open PySem.Sem (wp)
set_option maxRecDepth 100000
namespace Mine
section
variable {prog : Program} {w : World} {A : Around} {E : Value → Shared → Prop} {s : Shared} {h : Heap} {tk : Nat} {env : Env} {Q : Value → Shared → Prop}
theorem r_newTuple {h₀ : Heap} {L l mu} {vs : List Value} (S : Sx h₀ L l mu h) (hsz : vs.length ≤ 1000000) (hq : ∀ a h', Sx h₀ L l ((a, tobj vs) :: mu) h' → Q (.ref a) (St s h' tk)) : wpAny (model prog w) A (newTuple vs) Q E (St s h tk) :=
  wpAny_newTuple (s := St s h tk) (hq _ _ (S.push _)) (by rw [sizeLine_eq]; omega)
theorem r_newList {h₀ : Heap} {L l mu} {vs : List Value} (S : Sx h₀ L l mu h) (hsz : vs.length ≤ 1000000) (hq : ∀ a h', Sx h₀ L l ((a, lobj vs 0) :: mu) h' → Q (.ref a) (St s h' tk)) : wpAny (model prog w) A (newList vs) Q E (St s h tk) :=
  wpAny_newList (s := St s h tk) (hq _ _ (S.push _)) (by rw [sizeLine_eq]; omega)
theorem isTup_tobj {h : Heap} {a : Addr} {vs : List Value} (e : h.get? a = some (tobj vs)) : IsTup h a vs.toArray := ⟨_, e, rfl, _, rfl⟩
theorem o_inT {h₀ : Heap} {L l mu} {a : Addr} {vs : List Value} {ns : List Int} {x : Int} {u : Tok} (S : Sx h₀ L l ((a, tobj vs) :: mu) h) (hi : IntsAre vs ns) (hq : Q (.bool (ns.any (· == x))) (St s h tk)) :
    wpAny (model prog w) A (compareOp .In (.int x u) (.ref a)) Q E (St s h tk) := in_tuple_ints (s := St s h tk) (isTup_tobj (S.get (.head _))) hi hq
theorem o_inT2 {h₀ : Heap} {L l mu} {d : Addr} {x a b : Int} {ta tb u : Tok} (S : Sx h₀ L l ((d, tobj [.int a ta, .int b tb]) :: mu) h) (hq : Q (.bool (decide (x = a ∨ x = b))) (St s h tk)) :
    wpAny (model prog w) A (compareOp .In (.int x u) (.ref d)) Q E (St s h tk) := by
  refine o_inT S (ns := [a, b]) (.cons _ _ (.cons _ _ .nil)) ?_
  have : ([a, b].any (· == x)) = decide (x = a ∨ x = b) := by
    rw [Bool.eq_iff_iff]; simp; omega
  rw [this]; exact hq
theorem o_inT3 {h₀ : Heap} {L l mu} {d : Addr} {x a b c : Int} {ta tb tc u : Tok} (S : Sx h₀ L l ((d, tobj [.int a ta, .int b tb, .int c tc]) :: mu) h) (hq : Q (.bool (decide (x = a ∨ x = b ∨ x = c))) (St s h tk)) :
    wpAny (model prog w) A (compareOp .In (.int x u) (.ref d)) Q E (St s h tk) := by
  refine o_inT S (ns := [a, b, c]) (.cons _ _ (.cons _ _ (.cons _ _ .nil))) ?_
  have : ([a, b, c].any (· == x)) = decide (x = a ∨ x = b ∨ x = c) := by
    rw [Bool.eq_iff_iff]; simp; omega
  rw [this]; exact hq
theorem q_strE {a b : Str} {t : Tok} (e : a = b) (k : Q (.str a t) s) : Q (.str b t) s := e ▸ k
end
theorem test_lastE {M : Model} {A : Around} {E : Value → Shared → Prop} {s : Shared} {env : Env} {pos : Pos} {a : Value} {op : CmpOp} {r : Sem Value} {Q : Bool → Shared → Prop}
    (h : wpAny M A r (fun b s₁ => wpAny M A (compareOp op a b) (fun c s₂ => wpAny M A (truthy c) Q E s₂) E s₁) E s) : wpAny M A (testChain pos a [op] (r :: evalEach [] env)) Q E s := test_last h
end Mine
end
section
open PySem PySem.W PyProof PyProof.Rows
open PySem.Sem (wp)
set_option maxRecDepth 100000
namespace Mine
section
variable {prog : Program} {w : World} {A : Around} {E : Value → Shared → Prop} {s : Shared} {h : Heap} {tk : Nat} {env : Env} {t u : Tok} {Q : Value → Shared → Prop}
theorem o_lenB {x : List UInt8} (hf : x.length ≤ 16777216) (hq : ∀ t tk', Q (.int (x.length : Nat) t) (St s h tk')) : wpAny (model prog w) A (call (.builtin "len") [.bytes x.toArray t]) Q E (St s h tk) := by
  refine len_bytes (s := St s h tk) (by simp; omega) ?_
  have := hq (tk + 1) (tk + 1 + 1)
  simpa using this
theorem o_lenT {x : List Nat} (hf : x.length ≤ 16777216) (hq : ∀ t tk', Q (.int (x.length : Nat) t) (St s h tk')) : wpAny (model prog w) A (call (.builtin "len") [.str ⟨x.toArray⟩ t]) Q E (St s h tk) := by
  refine o_lenS (x := ⟨x.toArray⟩) (by simpa [Str.length] using hf) ?_
  intro t k
  simpa [Str.length] using hq t k
theorem o_isNoneI {i : Int} (hq : Q (.bool false) (St s h tk)) : wpAny (model prog w) A (compareOp .Is (.int i t) .none) Q E (St s h tk) := is_none_ne (by intro e; cases e) hq
theorem o_addT {x y : List Nat} (hs : x.length + y.length ≤ 16777216) (hq : ∀ t tk', Q (.str ⟨(x ++ y).toArray⟩ t) (St s h tk')) : wpAny (model prog w) A (binaryOp .Add (.str ⟨x.toArray⟩ t) (.str ⟨y.toArray⟩ u)) Q E (St s h tk) := by
  refine o_addS (by simpa [Str.length] using hs) ?_
  intro t k
  have : (⟨x.toArray⟩ : Str) ++ ⟨y.toArray⟩ = ⟨(x ++ y).toArray⟩ := by
    show Str.append _ _ = _
    simp [Str.append]
  rw [this]; exact hq t k
/-- the slice object, and the subscript behind it -/
def SlcQ (lo hi : Value) (Q : Value → Shared → Prop) (s : Shared) : Prop := Q (.ref s.heap.objs.size) { s with heap := s.heap.push { cls := .type "slice", data := .fields #[lo, hi, .none] } }
theorem r_slcTo {up : Expr} {p : Pos} {Q : Value → Shared → Prop} {s : Shared} (k : wpAny (model prog w) A (eval up env) (fun u s₂ => SlcQ .none u Q s₂) E s) : wpAny (model prog w) A (eval (.Slice none (some up) none p) env) Q E s :=
  wpAny_Slice (wpAny_evalPart_none (wpAny_evalPart_some (wpAny_mono k (fun _ _ h => wpAny_evalPart_none h) fun _ _ e => e)))
theorem r_slcFrom {lo : Expr} {p : Pos} {Q : Value → Shared → Prop} {s : Shared} (k : wpAny (model prog w) A (eval lo env) (fun u s₂ => SlcQ u .none Q s₂) E s) : wpAny (model prog w) A (eval (.Slice (some lo) none none p) env) Q E s :=
  wpAny_Slice (wpAny_evalPart_some (wpAny_mono k (fun _ _ h => wpAny_evalPart_none (wpAny_evalPart_none h)) fun _ _ e => e))
theorem r_sliceTo {h₀ : Heap} {L l mu} {value slice : Expr} {x : List Nat} {j : Int} {n : Nat} (S : Sx h₀ L l mu h) (e : j = (n : Nat)) (hn : n ≤ x.length) (hx : x.length ≤ 16777216)
    (hq : ∀ t' h' tk', Sx h₀ L l mu h' → Q (.str ⟨(x.take n).toArray⟩ t') (St s h' tk'))
    (hs : ∀ r, subscripted slice false (.str ⟨x.toArray⟩ t) (.ref r) = operate [.ref r, .str ⟨x.toArray⟩ t] (getItem (.str ⟨x.toArray⟩ t) (.ref r)))
    (ht : ∀ r, letTemporaryGo value (.str ⟨x.toArray⟩ t) r = pure ()) :
    SlcQ .none (.int j u) (fun i s₂ => wpAny (model prog w) A (subscriptTail value slice (.str ⟨x.toArray⟩ t) i) Q E s₂) (St s h tk) := by
  subst e
  refine tail_of_ItemOn (SBH.sliceItem_ns (s := St s h tk) (P := Sx h₀ L l mu) sx_kept S (fun h' t' k S' => ?_) (by rw [sizeLine_eq]; simpa [Str.length] using hx)) (hs _) ht
  have := eq_of_beq (slice_closes_toL (x := ⟨x.toArray⟩) (j := (n : Int)) (by omega) (by simpa [Str.length] using hn))
  rw [this]
  simpa using hq t' h' k S'
theorem r_sliceFrom {h₀ : Heap} {L l mu} {value slice : Expr} {x : List Nat} {j : Int} {n : Nat} (S : Sx h₀ L l mu h) (e : j = (n : Nat)) (hn : n ≤ x.length) (hx : x.length ≤ 16777216)
    (hq : ∀ t' h' tk', Sx h₀ L l mu h' → Q (.str ⟨(x.drop n).toArray⟩ t') (St s h' tk'))
    (hs : ∀ r, subscripted slice false (.str ⟨x.toArray⟩ t) (.ref r) = operate [.ref r, .str ⟨x.toArray⟩ t] (getItem (.str ⟨x.toArray⟩ t) (.ref r)))
    (ht : ∀ r, letTemporaryGo value (.str ⟨x.toArray⟩ t) r = pure ()) :
    SlcQ (.int j u) .none (fun i s₂ => wpAny (model prog w) A (subscriptTail value slice (.str ⟨x.toArray⟩ t) i) Q E s₂) (St s h tk) := by
  subst e
  refine tail_of_ItemOn (SBH.sliceItem_sn (s := St s h tk) (P := Sx h₀ L l mu) sx_kept S (fun h' t' k S' => ?_) (by rw [sizeLine_eq]; simpa [Str.length] using hx)) (hs _) ht
  have := slice_from_eq (x := ⟨x.toArray⟩) (i := (n : Int)) (b := x.length) (by omega) (by simpa [Str.length] using hn) (by simp [Str.length])
  rw [this]
  have e2 : ((x.length : Int) - (n : Int)).toNat = x.length - n := by omega
  rw [e2]
  have e3 : List.take (x.length - n) (List.drop n x) = List.drop n x := List.take_of_length_le (by simp)
  simp only [Int.toNat_natCast, e3]
  exact hq t' h' k S'
end
end Mine
end
section
open PySem PySem.W PyProof PyProof.Rows
open PySem.Sem (wp)
set_option maxRecDepth 100000
namespace Mine
namespace Fb
theorem slot_rfind : Slot "bytes" "rfind" "bytes.rfind" := Slot.of (by rw [typeLookup_type, builtinLookup_eq_fast]; kernel_rfl) (owner := "bytes") (n := "rfind") (by kernel_rfl) (by kernel_rfl) (by kernel_rfl) (.inr (by kernel_rfl)) (by rw [isSubtype_type]; kernel_rfl)
theorem slot_upper : Slot "bytes" "upper" "bytes.upper" := Slot.of (by rw [typeLookup_type, builtinLookup_eq_fast]; kernel_rfl) (owner := "bytes") (n := "upper") (by kernel_rfl) (by kernel_rfl) (by kernel_rfl) (.inr (by kernel_rfl)) (by rw [isSubtype_type]; kernel_rfl)
theorem ty_rfind : typeOf (.builtin "bytes.rfind") = pure (.type "method_descriptor") := by kernel_rfl
theorem ty_upper : typeOf (.builtin "bytes.upper") = pure (.type "method_descriptor") := by kernel_rfl
theorem entry_rfind : entryFor table "bytes.rfind" = some Builtin.«bytes.rfind» := entryFor_of_tree (by kernel_rfl)
theorem entry_upper : entryFor table "bytes.upper" = some Builtin.«bytes.upper» := entryFor_of_tree (by kernel_rfl)
theorem args_rfind (x y : Value) : argsOk "bytes.rfind" ⟨[x, y], []⟩ := by kernel_rfl
theorem args_upper (x : Value) : argsOk "bytes.upper" ⟨[x], []⟩ := by kernel_rfl
end Fb
section
variable {prog : Program} {w : World} {A : Around} {E : Value → Shared → Prop} {s : Shared} {h : Heap} {tk : Nat} {t u : Tok} 
theorem gm_rfind {M : Model} {b : Array UInt8} {pl : Sem Bool} {Q : Value × List Value → Shared → Prop} (hq : Q (.builtin "bytes.rfind", [.bytes b t]) (St s h tk)) : wpAny M A (getMethod (.bytes b t) "rfind" pl) Q E (St s h tk) := by
  with_reducible exact KBd.method_of (.bytes b t) (typeIs_bytes _ _ _) Fb.slot_rfind Fb.ty_rfind KBd.noRef hq
theorem gm_upper {M : Model} {b : Array UInt8} {pl : Sem Bool} {Q : Value × List Value → Shared → Prop} (hq : Q (.builtin "bytes.upper", [.bytes b t]) (St s h tk)) : wpAny M A (getMethod (.bytes b t) "upper" pl) Q E (St s h tk) := by
  with_reducible exact KBd.method_of (.bytes b t) (typeIs_bytes _ _ _) Fb.slot_upper Fb.ty_upper KBd.noRef hq
theorem upper_tree {b : Array UInt8} : Builtin.«bytes.upper» ⟨[.bytes b t], []⟩ = (mkBytes (b.toList.map Builtin.Bytes.toUpper).toArray >>= fun v => ret v) := by
  kernel_rfl
theorem o_upper {x : List UInt8} {Q : Value → Shared → Prop} (hx : x.length ≤ 16777216) (hq : ∀ t tk', Q (.bytes (x.map Builtin.Bytes.toUpper).toArray t) (St s h tk')) : wpAny (model prog w) A (call (.builtin "bytes.upper") [.bytes x.toArray t]) Q E (St s h tk) := by
  refine call_meets (S := fun _ R s' => R (.ok (.ret (.bytes (x.map Builtin.Bytes.toUpper).toArray s'.toks))) { s' with toks := s'.toks + 1 }) Fb.slot_upper (typeIs_bytes _ _ _) Fb.entry_upper (Fb.args_upper _) (.of_wp fun prog w A R s' hS => ?_) (hq _ _)
  rw [upper_tree]
  exact wpAny_bind (wpAny_mkBytes (wpAny_pure ⟨_, rfl, hS⟩) (by rw [sizeLine_eq]; simpa using hx))
def winW (b m : Array UInt8) : Option (Nat × Nat) := if (Builtin.Bytes.window b.size none none).2 - (Builtin.Bytes.window b.size none none).1 < m.size then none else some ((Builtin.Bytes.window b.size none none).1.toNat, (Builtin.Bytes.window b.size none none).2.toNat)
theorem wp_search {M : Model} {b m : Array UInt8} {Q : Array UInt8 × Array UInt8 × Option (Nat × Nat) → Shared → Prop} (hq : Q (b, m, winW b m) s) : wpAny M A (Builtin.Bytes.searchArgs .bytes "rfind" ⟨[.bytes b t, .bytes m u], []⟩) Q E s := by
  unfold Builtin.Bytes.searchArgs
  refine wpAny_bind (wpAny_of_eq (show selfAndSome _ _ _ _ _ = pure (.bytes b t, [.bytes m u]) by kernel_rfl) ?_)
  dsimp only
  refine wpAny_bind (wpAny_of_eq (show Builtin.Bytes.bound? _ = pure none by rfl) ?_)
  refine wpAny_bind (wpAny_of_eq (show Builtin.Bytes.bound? _ = pure none by rfl) ?_)
  refine wpAny_bind (wpAny_of_eq buf_full ?_)
  refine wpAny_bind (wpAny_pure ?_)
  refine wpAny_bind (wpAny_of_eq (show Builtin.Bytes.payload (.bytes b t) = pure b by rfl) ?_)
  exact wpAny_pure hq
theorem win_is (b m : Array UInt8) : winW b m = if b.size < m.size then none else some (0, b.size) := by
  have e1 : (Builtin.Bytes.window b.size none none).1 = 0 := by unfold Builtin.Bytes.window; rfl
  have e2 : (Builtin.Bytes.window b.size none none).2 = b.size := by
    unfold Builtin.Bytes.window
    simp only [Option.getD_none]
    have : ¬ ((b.size : Int) < 0) := by omega
    simp only [this, if_false]
    exact Int.min_self _
  unfold winW
  rw [e1, e2]
  by_cases hlt : b.size < m.size
  · rw [if_pos (by omega), if_pos hlt]
  · rw [if_neg (by omega), if_neg hlt]; simp
def rfindZ (b m : Array UInt8) : Int := match (if b.size < m.size then none else Builtin.Bytes.rfind? b m 0 b.size) with | some i => (i : Int) | none => -1
theorem o_rfind {b m : Array UInt8} {Q : Value → Shared → Prop} (hq : ∀ t tk', Q (.int (rfindZ b m) t) (St s h tk')) : wpAny (model prog w) A (call (.builtin "bytes.rfind") [.bytes b t, .bytes m u]) Q E (St s h tk) := by
  refine call_meets (S := fun _ R s' => ∀ t tk', R (.ok (.ret (.int (rfindZ b m) t))) { s' with toks := tk' }) Fb.slot_rfind (typeIs_bytes _ _ _) Fb.entry_rfind (Fb.args_rfind _ _) (.of_wp fun prog w A R s' hS => ?_) hq
  unfold Builtin.«bytes.rfind» Builtin.Bytes.searchM
  refine wpAny_bind (wp_search ?_)
  rw [win_is]
  dsimp only
  unfold rfindZ at hS
  by_cases hlt : b.size < m.size
  · rw [if_pos hlt] at hS ⊢
    exact wpAny_bind (wpAny_rule (wpAny_bind (wpAny_mkInt (wpAny_pure ⟨_, rfl, hS _ _⟩))))
  · rw [if_neg hlt] at hS ⊢
    simp only [Option.bind_some]
    cases hr : Builtin.Bytes.rfind? b m 0 b.size with
    | none => 
      rw [hr] at hS
      exact wpAny_bind (wpAny_rule (wpAny_bind (wpAny_mkInt (wpAny_pure ⟨_, rfl, hS _ _⟩))))
    | some i =>
      rw [hr] at hS
      exact wpAny_bind (wpAny_mkInt (wpAny_pure ⟨_, rfl, hS _ _⟩))
end
end Mine
end
section
open PySem PySem.W PyProof PyProof.Rows
open PySem.Sem (wp)
set_option maxRecDepth 100000
namespace Mine
theorem find_rev (p : Nat → Bool) (k : Nat) (hk : p k = true) : ∀ n, k < n → (∀ j, k < j → j < n → p j = false) → (List.range n).reverse.find? p = some k
  | 0, h, _ => absurd h (Nat.not_lt_zero _)
  | n + 1, h, hj => by
    rw [List.range_succ, List.reverse_append, List.reverse_singleton, List.singleton_append, List.find?_cons]
    by_cases e : k = n
    · subst e; rw [hk]
    · rw [hj n (by omega) (by omega)]
      exact find_rev p k hk n (by omega) fun j h1 h2 => hj j h1 (by omega)
theorem ext_one (x : List UInt8) (i : Nat) (hi : i < x.length) : (x.toArray.extract i (i + 1) == #[45]) = decide (x[i] = 45) := by
  have : x.toArray.extract i (i + 1) = #[x[i]] := by
    apply Array.ext'
    simp
    rw [List.drop_eq_getElem_cons hi, List.take_succ_cons, List.take_zero]
  rw [this]
  by_cases e : x[i] = 45
  · simp [e]
  · simp [e]
theorem range_shift (n : Nat) : (List.range n).map (· + 0) = List.range n := by simp
theorem rfind_none (x : List UInt8) (h : (45 : UInt8) ∉ x) : rfindZ x.toArray #[45] = -1 := by
  unfold rfindZ
  by_cases hs : x.toArray.size < (#[45] : Array UInt8).size
  · rw [if_pos hs]
  · rw [if_neg hs]
    have : Builtin.Bytes.rfind? x.toArray #[45] 0 x.toArray.size = none := by
      unfold Builtin.Bytes.rfind?
      rw [range_shift, List.find?_eq_none]
      intro i hi
      have hi2 : i < x.length := by simp at hi; omega
      show ¬ (x.toArray.extract i (i + 1) == #[45]) = true
      rw [ext_one x i hi2]
      simp only [decide_eq_true_eq]
      intro e
      exact h (e ▸ List.getElem_mem hi2)
    rw [this]
theorem rfind_at (x y : List UInt8) (h : (45 : UInt8) ∉ y) : rfindZ (x ++ 45 :: y).toArray #[45] = (x.length : Nat) := by
  unfold rfindZ
  have hs : ¬ (x ++ 45 :: y).toArray.size < (#[45] : Array UInt8).size := by simp
  rw [if_neg hs]
  have : Builtin.Bytes.rfind? (x ++ 45 :: y).toArray #[45] 0 (x ++ 45 :: y).toArray.size = some x.length := by
    unfold Builtin.Bytes.rfind?
    rw [range_shift]
    refine find_rev _ _ ?_ _ ?_ ?_
    · show ((x ++ 45 :: y).toArray.extract x.length (x.length + 1) == #[45]) = true
      rw [ext_one _ _ (by simp)]; simp
    · simp
    · intro j h1 h2
      have hj : j < (x ++ 45 :: y).length := by simp at h2 ⊢; omega
      show ((x ++ 45 :: y).toArray.extract j (j + 1) == #[45]) = false
      rw [ext_one _ _ hj]
      simp only [decide_eq_false_iff_not]
      intro e
      rw [List.getElem_append_right (by omega)] at e
      obtain ⟨d, hd⟩ : ∃ d, j - x.length = d + 1 := ⟨j - x.length - 1, by omega⟩
      simp only [hd, List.getElem_cons_succ] at e
      exact h (e ▸ List.getElem_mem _)
  rw [this]
end Mine
end
section
open PySem PySem.W PyProof PyProof.Rows
open PySem.Sem (wp)
set_option maxRecDepth 100000
namespace Mine
section
variable {prog : Program} {w : World} {A : Around} {E : Value → Shared → Prop} {s : Shared} {h : Heap} {tk : Nat} {t u v : Tok} 
theorem isi_false_bytes {x : Array UInt8} {T : String} (hne : (Value.type "bytes" == Value.type T) = false) (hty : typeOf (.type T) = pure (.type "type")) (hsub : isSubtype (.type "bytes") (.type T) = pure false) :
    Meets (Builtin.«isinstance» ⟨[.bytes x u, .type T], []⟩) (fun _ R s => R (.ok (.ret (.bool false))) { s with toks := s.toks + 1 }) :=
  fun _ _ _ _ s hs => by
    obtain ⟨h, g, d, t, os⟩ := s
    exact isinstance_outer (isinstance_nested_false_bytes hne hty hsub hs)
theorem o_isStrB {x : Array UInt8} {Q : Value → Shared → Prop} (hq : ∀ tk', Q (.bool false) (St s h tk')) : wpAny (model prog w) A (call (.builtin "isinstance") [.bytes x u, .type "str"]) Q E (St s h tk) :=
  call_isinstance (s := St s h tk) (isi_false_bytes (by decide +kernel) F.isi_meta_str (by rw [isSubtype_type]; kernel_rfl)) (hq _)
theorem o_isMvB {x : Array UInt8} {Q : Value → Shared → Prop} (hq : ∀ tk', Q (.bool false) (St s h tk')) : wpAny (model prog w) A (call (.builtin "isinstance") [.bytes x u, .type "memoryview"]) Q E (St s h tk) :=
  call_isinstance (s := St s h tk) (isi_false_bytes (by decide +kernel) (by kernel_rfl) (by rw [isSubtype_type]; kernel_rfl)) (hq _)
theorem o_isBytesB {x : Array UInt8} {Q : Value → Shared → Prop} (hq : Q (.bool true) (St s h tk)) : wpAny (model prog w) A (call (.builtin "isinstance") [.bytes x u, .type "bytes"]) Q E (St s h tk) :=
  call_isinstance (s := St s h tk) (isinstance_true (Tx := "bytes") F.isi_meta_bytes (by rw [isSubtype_type]; kernel_rfl)) ⟨rfl, hq⟩
theorem wp_ascii {M : Model} {id : String} {Q : Array Nat × Nat → Shared → Prop} (x : List UInt8) (hx : ∀ c ∈ x, c.toNat < 128) (hl : x.length ≤ 16777216) (hq : Q ((x.map UInt8.toNat).toArray, x.length) s) : wpAny M A (Builtin._codecs.runDecoder id Builtin._codecs.asciiDecoder (some (Str.ofString "strict")) true x.toArray 0 []) Q E s := by
  unfold Builtin._codecs.runDecoder
  refine wpAny_bind ?_
  rw [Std.Legacy.Range.forIn_eq_forIn_range']
  refine wpAny_forIn_list _ (fun rest st s' => s' = s ∧ ∃ i, rest.length + i = x.length ∧ st.2.1 = ((x.take i).map UInt8.toNat).toArray ∧ st.1 = i) _ ?_ ?_ _ _ ⟨rfl, 0, by simp [Std.Legacy.Range.size], by simp, rfl⟩
  · rintro y rest ⟨p, out, st⟩ s' ⟨hs, i, hi, h1, h2⟩
    rw [hs]
    dsimp only at h1 h2 ⊢
    have hil : i < x.length := by simp at hi; omega
    have hfind : Builtin._codecs.asciiDecoder.find true x.toArray p = .text [x[i].toNat] (i + 1) := by
      show (if (x.toArray.getD p 0).toNat < 128 then Builtin._codecs.Found.char (x.toArray.getD p 0).toNat (p + 1) else _) = _
      have e : x.toArray.getD p 0 = x[i] := by rw [h2]; simp [Array.getD, hil]
      rw [e, if_pos (hx _ (List.getElem_mem hil)), h2]; rfl
    rw [if_neg (by rw [h1, sizeLine_eq]; simp; omega), if_neg (by rw [h2]; simp; omega), hfind]
    refine wpAny_pure ⟨rfl, i + 1, by simp at hi; omega, ?_, rfl⟩
    have e2 : List.take (i + 1) x = List.take i x ++ [x[i]] := List.take_succ_eq_append_getElem hil
    simp only [e2, h1, List.map_append, List.map_cons, List.map_nil, List.append_toArray]
  · rintro ⟨p, out, st⟩ s' ⟨hs, i, hi, h1, h2⟩
    rw [hs]
    dsimp only at h1 h2 ⊢
    rw [h1, h2]
    have : i = x.length := by simpa using hi
    rw [this, List.take_length]
    exact wpAny_pure hq
theorem road_ascii {id : String} {b : Array UInt8} : Builtin._codecs.decodeRoad id b (PySem.Str.ofString "ascii") (some (Str.ofString "strict")) [] = (Builtin._codecs.runDecoder id Builtin._codecs.asciiDecoder (some (Str.ofString "strict")) true b 0 [] >>= fun r => mkStr ⟨r.1⟩) := by kernel_rfl
theorem meets_textA {t1 t2 t3 : Tok} {d : PySem.Str} {x : List UInt8} (hx : ∀ c ∈ x, c.toNat < 128) (hl : x.length ≤ 16777216) :
    Meets (Builtin.«_codecs.decode.text» ⟨[.bytes x.toArray t, .str (PySem.Str.ofString "ascii") t1, .str (PySem.Str.ofString "strict") t3, .str d t2], []⟩) (fun _ R s => R (.ok (.ret (.str ⟨(x.map UInt8.toNat).toArray⟩ s.toks))) { s with toks := s.toks + 1 }) := by
  refine .of_wp fun prog w A R s hS => ?_
  show wpAny _ _ (Builtin.Bytes.bytesLike _ (.bytes x.toArray t) >>= fun r => _) _ _ s
  refine wpAny_bind (wpAny_of_eq KBd.like_eq ?_)
  refine wpAny_bind (wpAny_of_eq KBd.held_eq ?_)
  show wpAny _ _ (Builtin._codecs.decodeRoad _ x.toArray (PySem.Str.ofString "ascii") (some (Str.ofString "strict")) [] >>= fun v => _) _ _ s
  rw [road_ascii]
  refine wpAny_bind (wpAny_bind (wp_ascii x hx hl ?_))
  exact wpAny_mkStr (wpAny_pure ⟨_, rfl, hS⟩) (by rw [sizeLine_eq]; simpa [Str.length] using hl)
theorem typeCall3 (a b c : Value) : checkTypeCall "str" ⟨[a, b, c], []⟩ = pure () := by kernel_rfl
theorem newCall3 (a b c : Value) : checkBuiltinCall "str.__new__" ⟨[.type "str", a, b, c], []⟩ = pure () := by kernel_rfl
theorem init4 (o a b c : Value) : argsOk "object.__init__" ⟨[o, a, b, c], []⟩ := by kernel_rfl
theorem decode_tree {c : UInt8} {cs : List UInt8} : Builtin.«bytes.decode» ⟨[.bytes (c :: cs).toArray t], [(Str.ofString "encoding", .str (Str.ofString "ascii") u), (Str.ofString "errors", .str (Str.ofString "strict") v)]⟩ = (mkStr (PySem.Str.ofString "utf-8") >>= fun _ => mkStr (Str.ofString "ascii") >>= fun e => mkStr (Str.ofString "strict") >>= fun r => mkStr (PySem.Str.ofString "bytes.decode") >>= fun d =>
    call (.builtin "_codecs.decode.text") [.bytes (c :: cs).toArray t, e, r, d] >>= fun v => ret v) := by kernel_rfl
theorem args_decode (x y z : Value) : argsOk "bytes.decode" ⟨[x], [(Str.ofString "encoding", y), (Str.ofString "errors", z)]⟩ := by kernel_rfl
theorem decode_kw {Q : Value → Shared → Prop} {c : UInt8} {cs : List UInt8} (hx : ∀ d ∈ c :: cs, d.toNat < 128) (hl : (c :: cs).length ≤ 16777216) (hq : ∀ t tk', Q (.str ⟨((c :: cs).map UInt8.toNat).toArray⟩ t) { s with toks := tk' }) :
    wpAny (model prog w) A (call (.builtin "bytes.decode") [.bytes (c :: cs).toArray t] [(Str.ofString "encoding", .str (Str.ofString "ascii") u), (Str.ofString "errors", .str (Str.ofString "strict") v)]) Q E s := by
  refine wpAny_call (codeAny_call_builtin FB.slot_bytes_decode.plain FB.entry_bytes_decode (FB.slot_bytes_decode.check _ _ _ _ _ _ _ _ (typeIs_bytes _ _ _) (args_decode _ _ _) ?_))
  rw [decode_tree]
  refine wpAny_bind (wpAny_mkStr ?_ (by decide +kernel))
  refine wpAny_bind (wpAny_mkStr ?_ (by decide +kernel))
  refine wpAny_bind (wpAny_mkStr ?_ (by decide +kernel))
  refine wpAny_bind (wpAny_mkStr ?_ (by decide +kernel))
  exact wpAny_bind (call_function_meets KBd.kind_text KBd.plain_text KBd.entry_text (KBd.args_text _ _ _ _) (meets_textA hx hl) (wpAny_pure (hq _ _)))
theorem meets_new3 {c : UInt8} {cs : List UInt8} (hx : ∀ d ∈ c :: cs, d.toNat < 128) (hl : (c :: cs).length ≤ 16777216) : Meets (Builtin.«str.__new__» ⟨[.type "str", .bytes (c :: cs).toArray t, .str (Str.ofString "ascii") u, .str (Str.ofString "strict") v], []⟩) 
    (fun _ R s => ∀ t tk', R (.ok (.ret (.str ⟨((c :: cs).map UInt8.toNat).toArray⟩ t))) { s with toks := tk' }) := by
  refine .of_wp fun prog w A R s hS => ?_
  unfold Builtin.«str.__new__»
  dsimp only
  refine wpAny_bind (wpAny_pure ?_)
  refine wpAny_ite (KBy.ite_no (by decide) ?_)
  refine wpAny_bind (wpAny_of_eq isSubtype_str_str ?_)
  refine wpAny_ite (KBy.ite_no (by decide) ?_)
  refine wpAny_ite (KBy.ite_no (fun e => Bool.false_ne_true e) ?_)
  refine wpAny_bind (wpAny_of_eq (show _ = pure [some (.bytes (c :: cs).toArray t), some (.str (Str.ofString "ascii") u), some (.str (Str.ofString "strict") v)] by kernel_rfl) ?_)
  dsimp only
  refine wpAny_bind (wpAny_of_eq (show _ = pure (some (Str.ofString "ascii")) by kernel_rfl) ?_)
  refine wpAny_bind (wpAny_of_eq (show _ = pure (some (Str.ofString "strict")) by kernel_rfl) ?_)
  refine wpAny_bind ?_
  show wpAny _ _ ((mkStr (Str.ofString "ascii") >>= fun e => pure [(Str.ofString "encoding", e)]) >>= fun k1 => (mkStr (Str.ofString "strict") >>= fun e => pure [(Str.ofString "errors", e)]) >>= fun k2 => _) _ _ s
  refine wpAny_bind (wpAny_bind (wpAny_mkStr (wpAny_pure ?_) (by decide +kernel)))
  refine wpAny_bind (wpAny_bind (wpAny_mkStr (wpAny_pure ?_) (by decide +kernel)))
  refine wpAny_bind (wpAny_isInstance (T := "bytes") (b := true) rfl (by rw [isSubtype_type]; kernel_rfl) ?_)
  show wpAny _ _ (rule _ >>= fun _ => call (.builtin "bytes.decode") [.bytes (c :: cs).toArray t] [(Str.ofString "encoding", .str (Str.ofString "ascii") _), (Str.ofString "errors", .str (Str.ofString "strict") _)]) _ _ _
  refine wpAny_bind (wpAny_rule ?_)
  refine decode_kw hx hl ?_
  intro t' k'
  show wpAny _ _ (ret _) _ _ _
  exact wpAny_pure ⟨_, rfl, hS _ _⟩
theorem o_strAscii {x : List UInt8} {Q : Value → Shared → Prop} (hne : x ≠ []) (hx : ∀ d ∈ x, d.toNat < 128) (hl : x.length ≤ 16777216) (hq : ∀ t tk', Q (.str ⟨(x.map UInt8.toNat).toArray⟩ t) (St s h tk')) :
    wpAny (model prog w) A (call (.type "str") [.bytes x.toArray t, .str (Str.ofString "ascii") u, .str (Str.ofString "strict") v]) Q E (St s h tk) := by
  cases x with
  | nil => exact absurd rfl hne
  | cons c cs =>
    exact callType_new (s := St s h tk) F.called_str (by decide) (typeCall3 _ _ _) (newCall3 _ _ _) (fun obj => init4 obj _ _ _) F.entry_str_new (meets_new3 hx hl) (fun t' k => ⟨typeIs_str _ _ _, hq _ _⟩)
end
end Mine
end
section
open PySem PySem.W PyProof PyProof.Rows
open PySem.Sem (wp)
set_option maxRecDepth 100000
namespace Mine
section
variable {prog : Program} {w : World} {A : Around} {E : Value → Shared → Prop} {s : Shared} {h : Heap} {tk : Nat} {env : Env} {t u : Tok} {Q : Value → Shared → Prop}
theorem r_bytes {M : Model} {x k pos} (hq : Q (.bytes x.toArray tk) (St s h (tk + 1))) : wpAny M A (eval (.Constant (.bytes x) k pos) env) Q E (St s h tk) := Constant_bytes (s := St s h tk) hq
theorem o_addB {x y : List UInt8} (hs : x.length + y.length ≤ 16777216) (hq : ∀ t tk', Q (.bytes (x ++ y).toArray t) (St s h tk')) : wpAny (model prog w) A (binaryOp .Add (.bytes x.toArray t) (.bytes y.toArray u)) Q E (St s h tk) :=
  bytes_add_K (s := St s h tk) (by simpa using hs) rfl fun _ _ => hq _ _
theorem o_neB {x y : List UInt8} (hq : Q (.bool (x != y)) (St s h tk)) : wpAny (model prog w) A (compareOp .NotEq (.bytes x.toArray t) (.bytes y.toArray u)) Q E (St s h tk) := ne_bytes (s := St s h tk) hq
theorem clip_nat {n m : Nat} (h : m ≤ n) : clipAt n (m : Int) = m := by unfold clipAt; rw [if_neg (by omega)]; omega
theorem r_bsliceTo {h₀ : Heap} {L l mu} {value slice : Expr} {x : List UInt8} {j : Int} {n : Nat} (S : Sx h₀ L l mu h) (e : j = (n : Nat)) (hn : n ≤ x.length) (hx : x.length ≤ 16777216)
    (hq : ∀ t' h' tk', Sx h₀ L l mu h' → Q (.bytes (x.take n).toArray t') (St s h' tk'))
    (hs : ∀ r, subscripted slice false (.bytes x.toArray t) (.ref r) = operate [.ref r, .bytes x.toArray t] (getItem (.bytes x.toArray t) (.ref r)))
    (ht : ∀ r, letTemporaryGo value (.bytes x.toArray t) r = pure ()) :
    SlcQ .none (.int j u) (fun i s₂ => wpAny (model prog w) A (subscriptTail value slice (.bytes x.toArray t) i) Q E s₂) (St s h tk) := by
  subst e
  obtain ⟨m, F, hl⟩ := S.fr
  refine KBc.slice_K (s := St s h tk) F S.nw rfl .none (.int _ _) (by simpa [KBw.ints_length] using hx) (fun h' t' k F' N' _ => ?_) (hs _) ht
  have : KBy.picked x.toArray none (some (n : Int)) = (x.take n).toArray := by
    rw [KBc.picked_eq]; simp [clip_nat hn]
  rw [this]
  exact hq _ _ _ ⟨⟨m, F', hl⟩, N', S.nd⟩
theorem r_bsliceFrom {h₀ : Heap} {L l mu} {value slice : Expr} {x : List UInt8} {j : Int} {n : Nat} (S : Sx h₀ L l mu h) (e : j = (n : Nat)) (hn : n ≤ x.length) (hx : x.length ≤ 16777216)
    (hq : ∀ t' h' tk', Sx h₀ L l mu h' → Q (.bytes (x.drop n).toArray t') (St s h' tk'))
    (hs : ∀ r, subscripted slice false (.bytes x.toArray t) (.ref r) = operate [.ref r, .bytes x.toArray t] (getItem (.bytes x.toArray t) (.ref r)))
    (ht : ∀ r, letTemporaryGo value (.bytes x.toArray t) r = pure ()) :
    SlcQ (.int j u) .none (fun i s₂ => wpAny (model prog w) A (subscriptTail value slice (.bytes x.toArray t) i) Q E s₂) (St s h tk) := by
  subst e
  obtain ⟨m, F, hl⟩ := S.fr
  refine KBc.slice_K (s := St s h tk) F S.nw rfl (.int _ _) .none (by simpa [KBw.ints_length] using hx) (fun h' t' k F' N' _ => ?_) (hs _) ht
  have : KBy.picked x.toArray (some (n : Int)) none = (x.drop n).toArray := by
    rw [KBc.picked_eq]; simp [clip_nat hn]; exact List.take_of_length_le (by simp)
  rw [this]
  exact hq _ _ _ ⟨⟨m, F', hl⟩, N', S.nd⟩
theorem o_bytesList {h₀ : Heap} {L l mu} {a : Addr} {vs : List Value} {ns : List Nat} {ep : Nat} (S : Sx h₀ L l mu h) (ha : h.get? a = some (lobj vs ep)) (hi : IntsAre vs (ns.map fun n => ((n : Nat) : Int))) (hr : ∀ n ∈ ns, n < 256) (hz : ns.length ≤ 16777216) (hh : A.handled = none)
    (hq : ∀ t h' tk', Sx h₀ L l mu h' → Q (.bytes (ns.map Nat.toUInt8).toArray t) (St s h' tk')) : wpAny (model prog w) A (call (.type "bytes") [.ref a]) Q E (St s h tk) := by
  refine call_bytes_ints (s := St s h tk) (isList_lobj ha) hi (fun n hn => ?_) (by rw [hi.length, List.length_map, sizeLine_eq]; exact hz) hh (fun h' t k hk => ?_)
  · obtain ⟨m, hm, rfl⟩ := List.mem_map.mp hn
    have := hr m hm; omega
  · have : byteArr (ns.map fun n => ((n : Nat) : Int)) = (ns.map Nat.toUInt8).toArray := by
      unfold byteArr; simp
    rw [this]
    exact hq _ _ _ (S.grow hk)
end
end Mine
end
section
open PySem PySem.W PyProof PyProof.Rows
open PySem.Sem (wp)
set_option maxRecDepth 100000
namespace Mine
/-- another object changed -/
theorem Sx.other {h₀ h h' : Heap} {L l mu} {C : Addr} (S : Sx h₀ L l mu h) (hs : Heap.SameBut C h h') (hL : L ≠ C) (h0 : h₀.get? C = none) (hm : ∀ p ∈ mu, p.1 ≠ C) : Sx h₀ L l mu h' := by
  obtain ⟨m, F, hl⟩ := S.fr
  obtain ⟨oL, es, ep, hLo, r⟩ := F.ns
  refine ⟨⟨m, ⟨⟨oL, es, ep, (hs.2 L hL).trans hLo, r⟩, fun b o e => (hs.2 b (fun q => by rw [q, h0] at e; cases e)).trans (F.keep b o e), F.above⟩, hl⟩, fun p hp => ?_, S.nd⟩
  exact ⟨(hs.2 _ (hm p hp)).trans (S.nw p hp).1, (S.nw p hp).2⟩
section
variable {M : Model} {A : Around} {E : Value → Shared → Prop} {s : Shared} {h : Heap} {tk : Nat} {env : Env}
theorem r_cell {x : Str} {pos : Pos} {c : Addr} {o : Obj} {v : Value} {Q : Value → Shared → Prop} (hc : env.cells.lookup x = some c) (ho : h.get? c = some o) (hd : o.data = .cell (some v)) (hk : env.scope.kind = .function) (hl : env.kindOf x = some .cell)
    (hdb : (x == ("__debug__" : Str)) = false) (hq : Q v (St s h tk)) : wpAny M A (eval (.Name x pos) env) Q E (St s h tk) :=
  wpAny_Name (wpAny_loadName_cell (s := St s h tk) hk hl hc ⟨o, ho, hd⟩ hq) hdb
def CellAt (h : Heap) (c : Addr) (v : Value) : Prop := ∃ o, h.get? c = some o ∧ o.data = .cell (some v)
theorem r_cellB {h₀ : Heap} {L l mu} {x : Str} {pos : Pos} {c : Addr} {v : Value} {Q : Value → Shared → Prop} (S : Sx h₀ L l mu h) (ha : CellAt h₀ c v) (hc : env.cells.lookup x = some c) (hk : env.scope.kind = .function) (hl : env.kindOf x = some .cell)
    (hdb : (x == ("__debug__" : Str)) = false) (hq : Q v (St s h tk)) : wpAny M A (eval (.Name x pos) env) Q E (St s h tk) := by
  obtain ⟨o, ho, hd⟩ := ha
  exact r_cell hc (S.keep _ _ ho) hd hk hl hdb hq
theorem r_storeCell {h₀ : Heap} {L l mu} {x : Str} {c : Addr} {o : Obj} {v₀ : Option Value} {v : Value} {Q : Unit → Shared → Prop} (S : Sx h₀ L l ((c, o) :: mu) h) (hd : o.data = .cell v₀) (hc : env.cells.lookup x = some c) (hk : env.scope.kind = .function) (hl : env.kindOf x = some .cell)
    (hq : ∀ o' h' tk', o'.data = .cell (some v) → Sx h₀ L l ((c, o') :: mu) h' → Q () (St s h' tk')) : wpAny M A (storeName env x v) Q E (St s h tk) := by
  refine wpAny_storeName_cell (s := St s h tk) hk hl hc ⟨o, S.get (.head _), hd⟩ fun h' hc' hs => ?_
  obtain ⟨o', ho', hd'⟩ := hc'
  exact hq o' h' tk hd' (S.upd hs ho')
end
section
variable {prog : Program} {w : World} {A : Around} {E : Value → Shared → Prop} {s : Shared} {h : Heap} {tk : Nat} {env : Env}
def CompK (prog : Program) (w : World) (A : Around) (E : Value → Shared → Prop) (env : Env) (e : Expr) (scope : Scope) (cl : List (Str × Addr)) (use : Option (Value → Sem Unit)) (Q : Value → Shared → Prop) (it : Value) (s₂ : Shared) : Prop :=
  wpAny (model prog w) A (newList []) (fun acc s₃ => wpAny (model prog w) A (newFunctionEnv scope env.globals cl [] env.qual none .none (some env)) (fun cenv s₄ =>
      codeAny (model prog w) A (.compStart e 0 it acc { cenv with scope := relabel scope env }) (compPost (model prog w) A E use Q acc cenv.locals) s₄) E s₃) E s₂
theorem r_comp {elt iter : Expr} {x : Str} {px : Pos} {ifs : List Expr} {scope : Scope} {cl : List (Str × Addr)} {pos : Pos} {Q : Value → Shared → Prop}
    (h : wpAny (model prog w) A (eval iter env) (fun xv s₁ => wpAny (model prog w) A (pyIter xv) (fun it s₂ => CompK prog w A E env (.ListComp elt [⟨.Name x px, iter, ifs, 0⟩] scope pos) scope cl none Q it s₂) E s₁) E s)
    (hclos : closureFor scope env = pure cl) (hkind : scope.kind = .function) (hnames : ∀ y ∈ scope.names, y.2 = .local → scope.names.lookup y.1 = some .local)
    (hs : ∀ x, foldedSetIterable iter env x = pure x) : wpAny (model prog w) A (eval (.ListComp elt [⟨.Name x px, iter, ifs, 0⟩] scope pos) env) Q E s := by
  rw [eval_ListComp]
  exact wpAny_comprehension_free (use := none) rfl hs hclos hkind hnames h
theorem r_compAssign {elt iter : Expr} {x y : Str} {px py : Pos} {ifs : List Expr} {scope : Scope} {cl : List (Str × Addr)} {pos spos : Pos} {Q : Flow → Shared → Prop}
    (h : wpAny (model prog w) A (eval iter env) (fun xv s₁ => wpAny (model prog w) A (pyIter xv) (fun it s₂ => CompK prog w A E env (.ListComp elt [⟨.Name x px, iter, ifs, 0⟩] scope pos) scope cl (some (assign (.Name y py) env)) (fun _ s' => Q .next s') it s₂) E s₁) E s)
    (hsw : swapsWith (.ListComp elt [⟨.Name x px, iter, ifs, 0⟩] scope pos) (some (.Name y py)) spos.line env = pure true)
    (hclos : closureFor scope env = pure cl) (hkind : scope.kind = .function) (hnames : ∀ y ∈ scope.names, y.2 = .local → scope.names.lookup y.1 = some .local)
    (hs : ∀ x, foldedSetIterable iter env x = pure x) : wpAny (model prog w) A (exec (.Assign [.Name y py] (.ListComp elt [⟨.Name x px, iter, ifs, 0⟩] scope pos) spos) env) Q E s := by
  rw [exec_Assign_Name_used _ _ _ _ hsw]
  refine wpAny_bind (wpAny_standAt (wpAny_bind ?_))
  show wpAny _ A (do let _ ← comprehension (.ListComp elt [⟨.Name x px, iter, ifs, 0⟩] scope pos) scope env _ (newList []) false (eval iter env) (some (assign (.Name y py) env))) _ _ s
  exact wpAny_bind (wpAny_mono (wpAny_comprehension_free (use := some (assign (.Name y py) env)) (Q := fun _ s' => Q .next s') rfl hs hclos hkind hnames h) (fun _ s' hq => wpAny_pure (wpAny_pure hq)) fun _ _ e => e)
/-- the end of a turn -/
def CompEnd (s : Shared) (hb : Heap) (C : Addr) (J : List Value → List (Addr × Obj) → Prop) (its : List (Addr × Obj)) (acc : List Value) (s₂ : Shared) : Prop :=
  ∃ l mu h tk, s₂ = St s h tk ∧ J acc mu ∧ Sx hb C l (mu ++ its) h
theorem r_compEnd {hb : Heap} {C : Addr} {J : List Value → List (Addr × Obj) → Prop} {its : List (Addr × Obj)} {acc : List Value} {l mu} (S : Sx hb C l (mu ++ its) h) (hj : J acc mu) : CompEnd s hb C J its acc (St s h tk) := ⟨l, mu, h, tk, rfl, hj, S⟩
/-- the tests of a clause -/
theorem r_ifs0 {M : Model} {cenv : Env} {Q : Bool → Shared → Prop} (k : Q true s) : wpAny M A (forIn ([] : List Expr) true fun c r => if r = true then do let ok ← isTrue c cenv (eval c cenv); pure (ForInStep.yield ok) else pure (ForInStep.yield r)) Q E s := by
  rw [List.forIn_nil]; exact wpAny_pure k
theorem r_ifs1 {M : Model} {cenv : Env} {c : Expr} {Q : Bool → Shared → Prop} (k : wpAny M A (isTrue c cenv (eval c cenv)) Q E s) : wpAny M A (forIn [c] true fun c r => if r = true then do let ok ← isTrue c cenv (eval c cenv); pure (ForInStep.yield ok) else pure (ForInStep.yield r)) Q E s := by
  rw [List.forIn_cons]
  refine wpAny_bind ?_
  rw [if_pos rfl]
  refine wpAny_bind (wpAny_mono k (fun b s' hq => wpAny_pure ?_) fun _ _ e => e)
  show wpAny M A (forIn ([] : List Expr) b _) Q E s'
  rw [List.forIn_nil]; exact wpAny_pure hq
theorem lobj_push {vs : List Value} {n : Nat} {v : Value} : ({ cls := .type "list", data := .seq (vs.toArray.push v) (n + 1) } : Obj) = lobj (vs ++ [v]) (n + 1) := by
  unfold lobj; simp
theorem r_append {h₀ : Heap} {L l mu} {a : Addr} {vs : List Value} {n : Nat} {v : Value} {Q : Value → Shared → Prop} (S : Sx h₀ L l ((a, lobj vs n) :: mu) h) (hz : vs.length ≤ 1000000) (hq : ∀ h', Sx h₀ L l ((a, lobj (vs ++ [v]) (n + 1)) :: mu) h' → Q .none (St s h' tk)) :
    wpAny (model prog w) A (call (.builtin "list.append") [.ref a, v]) Q E (St s h tk) := by
  refine append_at (s := St s h tk) (its := vs.toArray) (n := n) (S.get (.head _)) (fun h' hs ho => ?_) (by rw [sizeLine_eq]; simp; omega)
  rw [lobj_push] at ho
  exact hq h' (S.upd hs ho)
theorem comp_run {elt iter : Expr} {x : Str} {px : Pos} {ifs : List Expr} {scope : Scope} {cl : List (Str × Addr)} {pos : Pos} {use : Option (Value → Sem Unit)} {Q : Value → Shared → Prop} {hb : Heap} {I : Addr} {oI : Obj} {fp : List Addr} {n : Nat} {P : Nat → Value → Prop} {StI : Nat → Heap → Prop}
    (W : Walks prog w A I fp [I] n P StI) (hst : StI 0 h) (hI : ∀ i h, StI i h → ∃ o, h.get? I = some o) (kb : Keeps hb h) (hsz : hb.objs.size ≤ h.objs.size) (hbI : hb.get? I = none) (hgI : h.get? I = some oI)
    (hfp : ∀ b ∈ fp, b = I ∨ ∃ o, hb.get? b = some o) (hn : n ≤ 1000000) (hcell : ∀ y ∈ scope.names, y.2 ≠ .cell) (hkind : scope.kind = .function) (hx : scope.names.lookup x = some .local)
    (J : Nat → List Value → List (Addr × Obj) → Prop) (hj : J 0 [] [])
    (turn : ∀ C i v acc mu l its h' tk', i < n → P i v → J i acc mu → Sx hb C ((x, v) :: l) (mu ++ its) h' →
      wpAny (model prog w) A (forIn ifs true fun c r => if r = true then do let ok ← isTrue c (compEnvC scope cl C env) (eval c (compEnvC scope cl C env)); pure (ForInStep.yield ok) else pure (ForInStep.yield r)) (fun ok s₃ =>
        if ok = true then wpAny (model prog w) A (eval elt (compEnvC scope cl C env)) (fun y s₄ => CompEnd s hb C (J (i + 1)) its (acc ++ [y]) s₄) (fun _ _ => False) s₃ else CompEnd s hb C (J (i + 1)) its acc s₃) (fun _ _ => False) (St s h' tk'))
    (hacc : ∀ i acc mu, J i acc mu → acc.length ≤ i)
    (done : ∀ C D acc ep mu l h' tk', J n acc mu → Sx hb C l ((D, lobj acc ep) :: mu) h' → compPost (model prog w) A E use Q (.ref D) C (.ok .next) (St s h' tk')) :
    CompK prog w A E env (.ListComp elt [⟨.Name x px, iter, ifs, 0⟩] scope pos) scope cl use Q (.ref I) (St s h tk) := by
  unfold CompK
  refine wpAny_newObj_type (s := St s h tk) (wpAny_newFunctionEnv hcell (by intro y hy; simp at hy) (fun h₁ hns₁ hsb₁ => ?_) hkind)
  dsimp only at hns₁ hsb₁ ⊢
  generalize hH2 : h.push { cls := .type "list", dict := none, data := .seq ([] : List Value).toArray } = H2 at hns₁ hsb₁ ⊢
  have hC : H2.objs.size = h.objs.size + 1 := by rw [← hH2, Heap.size_push]
  have hDC : h.objs.size ≠ H2.objs.size := by rw [hC]; exact Nat.ne_of_lt (Nat.lt_succ_self _)
  have below : ∀ b, b < h.objs.size → b ≠ H2.objs.size ∧ b ≠ h.objs.size := fun b hb => ⟨by rw [hC]; exact Nat.ne_of_lt (Nat.lt_succ_of_lt hb), Nat.ne_of_lt hb⟩
  have old : ∀ b o, h.get? b = some o → h₁.get? b = some o := fun b o e => hsb₁.extBut b o (below b (Heap.lt_size e)).1 (Heap.get?_push_of_some _ (hH2 ▸ Heap.get?_push_of_some _ e))
  have hD₁ : h₁.get? h.objs.size = some (lobj [] 0) := hsb₁.extBut _ _ hDC (Heap.get?_push_of_some _ (hH2 ▸ Heap.get?_push_size _ rfl))
  have hst₁ : StI 0 h₁ := W.frame _ _ _ hst fun b _ o e => old b o e
  have fresh : ∀ a, h.objs.size ≤ a → hb.get? a = none := fun a ha => by
    cases e : hb.get? a with
    | none => rfl
    | some o' => exact absurd (Heap.lt_size e) (Nat.not_lt.mpr (Nat.le_trans hsz ha))
  have hIlt := Heap.lt_size hgI
  have S₁ : Sx hb H2.objs.size [] [(h.objs.size, lobj [] 0), (I, oI)] h₁ := by
    refine ⟨⟨_, ⟨hns₁, fun b o e => old b o (kb b o e), by rw [hC]; omega⟩, fun _ _ e => by cases e⟩, fun p hp => ?_, ?_⟩
    · rcases List.mem_cons.mp hp with rfl | hp
      · exact ⟨hD₁, hDC, fresh _ (Nat.le_refl _)⟩
      · rw [List.mem_singleton.mp hp]
        exact ⟨old _ _ hgI, (below I hIlt).1, hbI⟩
    · refine List.nodup_cons.mpr ⟨?_, by simp⟩
      simp only [List.map_cons, List.map_nil, List.mem_singleton]
      exact Ne.symm (below I hIlt).2
  generalize hDe : h.objs.size = D at *
  generalize hCe : H2.objs.size = C at *
  have loop : codeAny (model prog w) A (.compLoop (.ListComp elt [⟨.Name x px, iter, ifs, 0⟩] scope pos) 0 (.ref I) (.ref D) (compEnvC scope cl C env)) (compPost (model prog w) A E use Q (.ref D) C) (St s h₁ tk) := by
    refine codeAny_compLoop_tests (env := compEnvC scope cl C env) (fun k s' => ∃ i acc ep mu l o h' tk', s' = St s h' tk' ∧ i ≤ n ∧ k = n - i ∧ J i acc mu ∧ StI i h' ∧ Sx hb C l ((I, o) :: (D, lobj acc ep) :: mu) h') ?_ n
      ⟨0, [], 0, [], [], oI, h₁, tk, rfl, Nat.zero_le _, rfl, hj, hst₁, S₁.perm (List.Perm.swap _ _ _)⟩
    rintro k s' ⟨i, acc, ep, mu, l, o, h', tk', rfl, hi, rfl, hJ, hSt, S⟩
    by_cases hlt : i < n
    · refine W.item i _ _ _ hlt hSt fun v h₂ tk₂ hP hSt₂ hk₂ => ?_
      obtain ⟨o₂, ho₂⟩ := hI _ _ hSt₂
      have S₂ := S.turn (fun b ob hb e => hk₂ b ob (by simpa using hb) e) ho₂
      refine wpAny_assign_Name (r_store (env := compEnvC scope cl C env) (tk := tk₂) S₂ rfl hkind (lookup_relabel_local hx) fun h₃ tk₃ S₃ => ?_)
      have S₃' : Sx hb C ((x, v) :: l) (mu ++ [(I, o₂), (D, lobj acc ep)]) h₃ := S₃.perm perm2
      have fin : ∀ acc' s₃, CompEnd s hb C (J (i + 1)) [(I, o₂), (D, lobj acc ep)] acc' s₃ → acc' = acc → ∃ m, m < n - i ∧ ∃ i acc ep mu l o h' tk', s₃ = St s h' tk' ∧ i ≤ n ∧ m = n - i ∧ J i acc mu ∧ StI i h' ∧ Sx hb C l ((I, o) :: (D, lobj acc ep) :: mu) h' := by
        rintro acc' s₃ ⟨l₄, mu₄, h₄, tk₄, rfl, hJ₄, S₄⟩ rfl
        refine ⟨n - (i + 1), by omega, i + 1, acc', ep, mu₄, l₄, o₂, h₄, tk₄, rfl, hlt, rfl, hJ₄, ?_, S₄.perm perm2.symm⟩
        refine W.frame _ _ _ hSt₂ fun b hbm ob e => ?_
        rcases hfp b hbm with rfl | ⟨ob', hob⟩
        · rw [ho₂] at e; cases e
          exact (S₄.perm perm2.symm).get (.head _)
        · have e1 := S₂.keep _ _ hob
          rw [e] at e1; cases e1
          exact S₄.keep _ _ hob
      refine wpAny_mono (turn C i v acc mu l [(I, o₂), (D, lobj acc ep)] h₃ tk₃ hlt hP hJ S₃') (fun ok s₃ hok => ?_) fun _ _ f => f.elim
      cases ok with
      | false =>
        simp only [Bool.false_eq_true, if_false] at hok ⊢
        exact fin _ _ hok rfl
      | true =>
        simp only [if_true] at hok ⊢
        refine wpAny_mono hok (fun y s₄ hy => ?_) fun _ _ f => f.elim
        obtain ⟨l₄, mu₄, h₄, tk₄, rfl, hJ₄, S₄⟩ := hy
        have S₅ := (S₄.perm perm2.symm).perm (List.Perm.swap _ _ _)
        refine r_append (tk := tk₄) S₅ (by have := hacc _ _ _ hJ; omega) fun h₆ S₆ => ?_
        refine ⟨n - (i + 1), by omega, i + 1, acc ++ [y], ep + 1, mu₄, l₄, o₂, h₆, tk₄, rfl, hlt, rfl, hJ₄, ?_, S₆.perm (List.Perm.swap _ _ _)⟩
        refine W.frame _ _ _ hSt₂ fun b hbm ob e => ?_
        rcases hfp b hbm with rfl | ⟨ob', hob⟩
        · rw [ho₂] at e; cases e
          exact S₆.get (.tail _ (.head _))
        · have e1 := S₂.keep _ _ hob
          rw [e] at e1; cases e1
          exact S₆.keep _ _ hob
    · have hin : i = n := by omega
      subst hin
      refine W.done _ _ _ hSt fun h₂ tk₂ hk₂ => ?_
      exact done C D acc ep mu l h₂ tk₂ hJ (S.off fun b ob hb e => hk₂ b ob (by simpa using hb) e)
  exact codeAny_compStart_list loop (W.self 0 _ _ _ hst₁ loop)
end
end Mine
end
section
open PySem PySem.W PyProof PyProof.Rows
open PySem.Sem (wp)
set_option maxRecDepth 100000
set_option linter.unusedVariables false
namespace Mine
section
variable {prog : Program} {w : World} {A : Around} {E : Value → Shared → Prop} {s : Shared} {h : Heap} {tk : Nat} {env : Env}
theorem inner_out {hb h : Heap} {h₀ : Heap} {C : Addr} {li mi L lo mo} (S : Sx h₀ L lo mo hb) (Si : Sx hb C li mi h) : Sx h₀ L lo (mi ++ mo) h ∧ L ≠ C ∧ h₀.get? C = none ∧ ∀ p ∈ mi ++ mo, p.1 ≠ C := by
  obtain ⟨mC, FC, _⟩ := Si.fr
  have hC : hb.get? C = none := by
    cases e : hb.get? C with
    | none => rfl
    | some o => exact absurd (Heap.lt_size e) (Nat.not_lt.mpr FC.above)
  refine ⟨S.add Si.keep (fun p hp => ⟨(Si.nw p hp).1, (Si.nw p hp).2.2⟩) Si.nd, ?_, ?_, ?_⟩
  · rintro rfl
    obtain ⟨m, F, _⟩ := S.fr
    obtain ⟨o, _, _, ho, _⟩ := F.ns
    rw [hC] at ho; cases ho
  · cases e : h₀.get? C with
    | none => rfl
    | some o => have := S.keep _ _ e; rw [hC] at this; cases this
  · intro p hp
    rcases List.mem_append.mp hp with hp | hp
    · exact (Si.nw p hp).2.1
    · rintro rfl
      have := (S.nw p hp).1
      rw [hC] at this; cases this
theorem comp_none {Q : Value → Shared → Prop} {hb : Heap} {h₀ : Heap} {C D : Addr} {li mi L lo mo} (S : Sx h₀ L lo mo hb) (Si : Sx hb C li mi h)
    (hq : ∀ h'', Sx h₀ L lo (mi ++ mo) h'' → Q (.ref D) (St s h'' tk)) : compPost (model prog w) A E none Q (.ref D) C (.ok .next) (St s h tk) := by
  obtain ⟨mC, FC, _⟩ := Si.fr
  obtain ⟨So, h1, h2, h3⟩ := inner_out S Si
  exact ⟨mC, FC.ns, fun h'' hs => hq h'' (So.other hs h1 h2 h3)⟩
theorem comp_assign {Q : Value → Shared → Prop} {hb : Heap} {h₀ : Heap} {C D : Addr} {li mi L lo mo} {y : Str} {py : Pos} (S : Sx h₀ L lo mo hb) (Si : Sx hb C li mi h) (hL : env.locals = L) (hk : env.scope.kind = .function) (hl : env.kindOf y = some .local)
    (hq : ∀ h'' tk', Sx h₀ L ((y, .ref D) :: lo) (mi ++ mo) h'' → Q .none (St s h'' tk')) : compPost (model prog w) A E (some (assign (.Name y py) env)) Q (.ref D) C (.ok .next) (St s h tk) := by
  subst hL
  obtain ⟨mC, FC, _⟩ := Si.fr
  obtain ⟨So, h1, h2, h3⟩ := inner_out S Si
  obtain ⟨mO, FO, hlO⟩ := So.fr
  refine wpAny_assign_Name (wpAny_storeName_local (s := St s h tk) hl FO.ns (fun h2' hn hs => ⟨mC, FC.ns.sameBut hs (Ne.symm h1), fun h3' hs3 => ?_⟩) (by rw [hk]; rfl))
  exact hq h3' _ ((So.store FO hlO hn hs).other hs3 h1 h2 h3)
/-- an iterator new in h' -/
structure IterOk (prog : Program) (w : World) (A : Around) (h : Heap) (I : Addr) (oI : Obj) (h' : Heap) (fa : List Addr) (n : Nat) (P : Nat → Value → Prop) (StI : Nat → Heap → Prop) : Prop where
  W : Walks prog w A I (I :: fa) [I] n P StI
  hst : StI 0 h'
  hI : ∀ i h, StI i h → ∃ o, h.get? I = some o
  kb : Keeps h h'
  hsz : h.objs.size ≤ h'.objs.size
  hbI : h.get? I = none
  hgI : h'.get? I = some oI
  hfa : ∀ b ∈ fa, ∃ o, h.get? b = some o
theorem it_list {a : Addr} {vs : List Value} {n : Nat} {Q : Value → Shared → Prop} (hh : A.handled = none) (ha : h.get? a = some (lobj vs n))
    (hq : ∀ I oI h' StI, IterOk prog w A h I oI h' [a] vs.length (fun i v => vs[i]? = some v) StI → Q (.ref I) (St s h' tk)) : wpAny (model prog w) A (pyIter (.ref a)) Q E (St s h tk) := by
  have hl := isList_lobj ha
  have hne : a ≠ h.objs.size := Nat.ne_of_lt (Heap.lt_size ha)
  have W := Walks.list (prog := prog) (w := w) (A := A) hh h.objs.size a hne vs.toArray
  have kb : Keeps h (h.push { cls := .type "list_iterator", data := .fields #[.ref a, .int 0 0] }) := fun _ _ e => Heap.get?_push_of_some _ e
  have K : IterOk prog w A h h.objs.size { cls := .type "list_iterator", data := .fields #[.ref a, .int 0 0] } (h.push { cls := .type "list_iterator", data := .fields #[.ref a, .int 0 0] }) [a] vs.length (fun i v => vs[i]? = some v) (fun i h' => h'.IsListIter h.objs.size a i ∧ h'.IsList a vs.toArray) := { W := by simpa using W, hst := ⟨⟨_, Heap.get?_push_size _ rfl, rfl, rfl⟩, isList_lobj (kb _ _ ha)⟩, hI := fun _ _ x => let ⟨⟨o, ho, _⟩, _⟩ := x; ⟨o, ho⟩, kb := kb, hsz := by rw [Heap.size_push]; exact Nat.le_succ _, hbI := get_size h, hgI := Heap.get?_push_size _ rfl, hfa := fun b hb => by rw [List.mem_singleton.mp hb]; exact ⟨_, ha⟩ }
  exact wpAny_pyIter_list (s := St s h tk) hl (hq _ _ _ _ K)
theorem it_bytes {x : List UInt8} {t : Tok} {Q : Value → Shared → Prop} (hh : A.handled = none)
    (hq : ∀ I oI h' StI, IterOk prog w A h I oI h' [] x.length (fun i v => ∃ c u, x[i]? = some c ∧ v = .int (c.toNat : Int) u) StI → Q (.ref I) (St s h' tk)) : wpAny (model prog w) A (pyIter (.bytes x.toArray t)) Q E (St s h tk) := by
  have W := KBw.walks (prog := prog) (w := w) (A := A) hh h.objs.size x.toArray t
  have K : IterOk prog w A h h.objs.size { cls := .type "bytes_iterator", data := .fields #[.bytes x.toArray t, .int 0 0] } (h.push { cls := .type "bytes_iterator", data := .fields #[.bytes x.toArray t, .int 0 0] }) [] x.length (fun i v => ∃ c u, x[i]? = some c ∧ v = .int (c.toNat : Int) u) (fun i h' => KBw.IsBytesIter h' h.objs.size x.toArray t i) := { W := by simpa using W, hst := ⟨_, Heap.get?_push_size _ rfl, rfl, rfl⟩, hI := fun _ _ x => let ⟨o, ho, _⟩ := x; ⟨o, ho⟩, kb := fun _ _ e => Heap.get?_push_of_some _ e, hsz := by rw [Heap.size_push]; exact Nat.le_succ _, hbI := get_size h, hgI := Heap.get?_push_size _ rfl, hfa := fun b hb => nomatch hb }
  exact KBw.pyIter_bytes (s := St s h tk) (hq _ _ _ _ K)
def robj (n : Int) (t u v : Tok) : Obj := { cls := .type "range", data := .fields #[.int 0 t, .int n u, .int 1 v] }
theorem r_range {h₀ : Heap} {L l mu} {n : Int} {t : Tok} {Q : Value → Shared → Prop} (S : Sx h₀ L l mu h) (hq : ∀ a t1 t2 t3 h' tk', Sx h₀ L l ((a, robj n t1 t2 t3) :: mu) h' → Q (.ref a) (St s h' tk')) : wpAny (model prog w) A (call (.type "range") [.int n t]) Q E (St s h tk) :=
  call_range_1 (s := St s h tk) (hq _ _ _ _ _ _ (S.push _))
theorem it_range {a : Addr} {n : Nat} {t1 t2 t3 : Tok} {Q : Value → Shared → Prop} (hh : A.handled = none) (hn : n ≤ 1000000) (ha : h.get? a = some (robj (n : Nat) t1 t2 t3))
    (hq : ∀ I oI h' StI, IterOk prog w A h I oI h' [] n (fun i v => ∃ t, v = .int (i : Nat) t) StI → Q (.ref I) (St s h' tk)) : wpAny (model prog w) A (pyIter (.ref a)) Q E (St s h tk) := by
  refine wpAny_pyIter_range (s := St s h tk) (a := 0) (b := (n : Nat)) (c := 1) (t := t1) (u := t2) (v := t3) ha ?_ (hq h.objs.size { cls := .type "range_iterator", data := .fields #[rawInt 0, rawInt (Builtin.Range.rangeSize 0 (n : Nat) 1), rawInt 1] } _ (fun i h' => IsRangeIter h' h.objs.size (0 + (i : Nat) * 1) ((n : Int) - (i : Nat)) 1) ?_)
  · exact small_one (by omega) (by omega) (by omega) (by omega)
  · have W := LCg.range_walks (prog := prog) (w := w) (A := A) (I := h.objs.size) hh 0 n
    have W' : Walks prog w A h.objs.size [h.objs.size] [h.objs.size] n (fun i v => ∃ t, v = .int (i : Nat) t) (fun i h' => IsRangeIter h' h.objs.size (0 + (i : Nat) * 1) ((n : Int) - (i : Nat)) 1) := by
      simpa using W
    refine { W := W', hst := ?_, hI := fun _ _ x => ⟨_, x⟩, kb := fun _ _ e => Heap.get?_push_of_some _ e, hsz := by rw [Heap.size_push]; exact Nat.le_succ _, hbI := get_size h, hgI := Heap.get?_push_size _ rfl, hfa := fun b hb => nomatch hb }
    have e : Builtin.Range.rangeSize 0 (n : Nat) 1 = (n : Int) - (0 : Nat) := by rw [rangeSize_nat]; omega
    unfold IsRangeIter
    rw [e]
    exact Heap.get?_push_size _ rfl
theorem r_forIt {target body} {Q : Flow → Shared → Prop} {h₀ : Heap} {L l mu} {hb : Heap} {I : Addr} {oI : Obj} {fa : List Addr} {n : Nat} {P : Nat → Value → Prop} {StI : Nat → Heap → Prop}
    (K : IterOk prog w A hb I oI h fa n P StI) (S : Sx h₀ L l mu hb) 
    (J : Nat → List (Str × Value) → List (Addr × Obj) → Prop) (hj : J 0 l mu)
    (hfp : ∀ b ∈ fa, ∃ o, ∀ i l' mu' h', J i l' mu' → Sx h₀ L l' mu' h' → h'.get? b = some o)
    (hlet : ∀ i v h tk Q E, P i v → StI (i + 1) h → Q () (St s h tk) → wpAny (model prog w) A (letOwnedTupleGo target (.ref I) v) Q E (St s h tk))
    (turn : ∀ i v l' mu' o h' tk', i < n → P i v → J i l' mu' → Sx h₀ L l' ((I, o) :: mu') h' → ∀ Q' : Flow → Shared → Prop, (∀ {l mu h tk}, Sx h₀ L l (mu ++ [(I, o)]) h → J (i + 1) l mu → Q' .next (St s h tk)) → 
      wpAny (model prog w) A (assign target env v) (fun _ s₂ => wpAny (model prog w) A (execs body env) Q' (fun _ _ => False) s₂) (fun _ _ => False) (St s h' tk'))
    (done : ∀ l' mu' h' tk', J n l' mu' → Sx h₀ L l' mu' h' → Q .next (St s h' tk')) :
    ForA prog w A env target body Q (.ref I) (St s h tk) := by
  have S1 : Sx h₀ L l ((I, oI) :: mu) h := S.new1 K.kb K.hgI K.hbI
  refine r_forW K.W K.hst S1 K.hI J hj (fun b hb => ?_) hlet (fun i v l' mu' o h' tk' hi hP hJ S' => ?_) done (fun f s' hq => hq)
  · rcases List.mem_cons.mp hb with rfl | hb
    · exact .inl rfl
    · exact .inr (hfp b hb)
  · refine wpAny_mono (turn i v l' mu' o h' tk' hi hP hJ S' (TurnG s h₀ L (J (i + 1)) [(I, o)] Q) r_turnG) (fun _ s₂ hs₂ => wpAny_mono hs₂ (fun f s₃ hf => ?_) fun _ _ x => x) fun _ _ x => x
    have step : (∃ l mu h tk, s₃ = St s h tk ∧ J (i + 1) l mu ∧ Sx h₀ L l (mu ++ [(I, o)]) h) → ∃ l mu h tk, s₃ = St s h tk ∧ J (i + 1) l mu ∧ Sx h₀ L l ((I, o) :: mu) h := by
      rintro ⟨l, mu, h, tk, e, hJ, S⟩
      exact ⟨l, mu, h, tk, e, hJ, S.perm perm1.symm⟩
    cases f with
    | next => exact step hf
    | cont => exact step hf
    | brk => exact hf
    | ret v => exact hf
/-- a comprehension whose list is a value -/
theorem comp_val {elt iter : Expr} {x : Str} {px : Pos} {ifs : List Expr} {scope : Scope} {cl : List (Str × Addr)} {pos : Pos} {Q : Value → Shared → Prop} {h₀ hb : Heap} {L lo mo} {I : Addr} {oI : Obj} {fa : List Addr} {n : Nat} {P : Nat → Value → Prop} {StI : Nat → Heap → Prop}
    (K : IterOk prog w A hb I oI h fa n P StI) (S : Sx h₀ L lo mo hb) (hn : n ≤ 1000000) (hcell : ∀ y ∈ scope.names, y.2 ≠ .cell) (hkind : scope.kind = .function) (hx : scope.names.lookup x = some .local)
    (J : Nat → List Value → List (Addr × Obj) → Prop) (hj : J 0 [] [])
    (turn : ∀ C i v acc mu l its h' tk', i < n → P i v → J i acc mu → Sx hb C ((x, v) :: l) (mu ++ its) h' →
      wpAny (model prog w) A (forIn ifs true fun c r => if r = true then do let ok ← isTrue c (compEnvC scope cl C env) (eval c (compEnvC scope cl C env)); pure (ForInStep.yield ok) else pure (ForInStep.yield r)) (fun ok s₃ =>
        if ok = true then wpAny (model prog w) A (eval elt (compEnvC scope cl C env)) (fun y s₄ => CompEnd s hb C (J (i + 1)) its (acc ++ [y]) s₄) (fun _ _ => False) s₃ else CompEnd s hb C (J (i + 1)) its acc s₃) (fun _ _ => False) (St s h' tk'))
    (hacc : ∀ i acc mu, J i acc mu → acc.length ≤ i)
    (done : ∀ D acc ep mu h' tk', J n acc mu → Sx h₀ L lo ((D, lobj acc ep) :: mu ++ mo) h' → Q (.ref D) (St s h' tk')) :
    CompK prog w A E env (.ListComp elt [⟨.Name x px, iter, ifs, 0⟩] scope pos) scope cl none Q (.ref I) (St s h tk) :=
  comp_run K.W K.hst K.hI K.kb K.hsz K.hbI K.hgI (fun b hb => (List.mem_cons.mp hb).elim .inl fun h => .inr (K.hfa b h)) hn hcell hkind hx J hj turn hacc
    fun C D acc ep mu l h' tk' hJ Si => comp_none S Si fun h'' So => done D acc ep mu h'' tk' hJ So
theorem comp_set {elt iter : Expr} {x y : Str} {px py : Pos} {ifs : List Expr} {scope : Scope} {cl : List (Str × Addr)} {pos : Pos} {Q : Value → Shared → Prop} {h₀ hb : Heap} {L lo mo} {I : Addr} {oI : Obj} {fa : List Addr} {n : Nat} {P : Nat → Value → Prop} {StI : Nat → Heap → Prop}
    (K : IterOk prog w A hb I oI h fa n P StI) (S : Sx h₀ L lo mo hb) (hn : n ≤ 1000000) (hcell : ∀ y ∈ scope.names, y.2 ≠ .cell) (hkind : scope.kind = .function) (hx : scope.names.lookup x = some .local)
    (hL : env.locals = L) (hk : env.scope.kind = .function) (hl : env.kindOf y = some .local)
    (J : Nat → List Value → List (Addr × Obj) → Prop) (hj : J 0 [] [])
    (turn : ∀ C i v acc mu l its h' tk', i < n → P i v → J i acc mu → Sx hb C ((x, v) :: l) (mu ++ its) h' →
      wpAny (model prog w) A (forIn ifs true fun c r => if r = true then do let ok ← isTrue c (compEnvC scope cl C env) (eval c (compEnvC scope cl C env)); pure (ForInStep.yield ok) else pure (ForInStep.yield r)) (fun ok s₃ =>
        if ok = true then wpAny (model prog w) A (eval elt (compEnvC scope cl C env)) (fun y s₄ => CompEnd s hb C (J (i + 1)) its (acc ++ [y]) s₄) (fun _ _ => False) s₃ else CompEnd s hb C (J (i + 1)) its acc s₃) (fun _ _ => False) (St s h' tk'))
    (hacc : ∀ i acc mu, J i acc mu → acc.length ≤ i)
    (done : ∀ D acc ep mu h' tk', J n acc mu → Sx h₀ L ((y, .ref D) :: lo) ((D, lobj acc ep) :: mu ++ mo) h' → Q .none (St s h' tk')) :
    CompK prog w A E env (.ListComp elt [⟨.Name x px, iter, ifs, 0⟩] scope pos) scope cl (some (assign (.Name y py) env)) Q (.ref I) (St s h tk) :=
  comp_run K.W K.hst K.hI K.kb K.hsz K.hbI K.hgI (fun b hb => (List.mem_cons.mp hb).elim .inl fun h => .inr (K.hfa b h)) hn hcell hkind hx J hj turn hacc
    fun C D acc ep mu l h' tk' hJ Si => comp_assign S Si hL hk hl fun h'' tk'' So => done D acc ep mu h'' tk'' hJ So
end
/-- enter a def with cells -/
theorem enterK {w : World} {A : Around} {s : Shared} {h : Heap} {tk : Nat} {mean : ExcName → Option Value} {mg mb : Str → Option Value} {k : Nat}
    {name qual : Str} {params : Arguments} {body : List Stmt} {scope : Scope} {dV kV doc pm cdv ct oc : Value} {an od : Option Addr} {osl : Array (Option Value)} {f : Addr} {args : List Value} 
    {Q E : Value → Shared → Prop} (binds : List (Str × Value)) (lb : List (Str × Value)) (cn : List Str) (cb : List (Option Value))
    (X : (hd.heap_39 w.params).In h) (T : TopM mean mg mb h) (R : Room (k + 1) A)
    (ho : (hd.heap_39 w.params).lookup f = some ⟨oc, od, .func (fnOf name qual params body scope dV kV doc pm an cdv ct), osl⟩) (hcd : codeIn (hd.heap_39 w.params) cdv qual = true)
    (hbind : bindArgs (fnOf name qual params body scope dV kV doc pm an cdv ct) ⟨args, []⟩ = pure binds)
    (hkind : ∀ L, ∀ x ∈ binds, scope.names.lookup x.1 = some .local ∨ (scope.names.lookup x.1 = some .cell ∧ ((cellsFrom (L + 1) scope.names []).lookup x.1).isSome = true))
    (hlb : ∀ L x v, lb.lookup x = some v → bindL (envOfC qual scope L f cdv).kindOf binds (fun _ => none) x = some v)
    (hcells : ∀ L, ∀ i x, cn[i]? = some x → ∃ c, (cellsFrom (L + 1) scope.names []).lookup x = some c ∧ c = L + 1 + i ∧ bindC (envOfC qual scope L f cdv).kindOf binds (fun _ => none) x = (cb[i]?).join)
    (hh : ∀ L h₁ tk₁ (ob : Nat → Obj), (∀ i, i < cn.length → (ob i).data = .cell (cb[i]?).join) → Sx h L lb ((List.range cn.length).map fun i => (L + 1 + i, ob i)) h₁ → Room k (A.deeper (envOfC qual scope L f cdv)) →
      wpAny (model Pr w) (A.deeper (envOfC qual scope L f cdv)) (execs body (envOfC qual scope L f cdv))
        (RetQ Q) (fun _ _ => False) (St s h₁ tk₁))
    (hco : scope.isCoroutine = false) (hgen : scope.isGenerator = false) (hk : scope.kind = .function) : wpAny (model Pr w) A (call (.ref f) args) Q E (St s h tk) := by
  refine wpAny_call ?_
  have hroom : A.depth < recursionLimit := by have := R.dp; show A.depth < 1000; omega
  refine codeAny_call_cells (s := St s h tk) (fd := fnOf name qual params body scope dV kV doc pm an cdv ct) (body := body) (binds := binds) hroom (X _ _ ho) rfl T.nolimit (codeRec_of X hcd) rfl hbind rfl (hkind _) (fun s₁ I₁ => ?_) hco hgen hk
  obtain ⟨h₁, tk₁, rfl⟩ := I₁.toInCall.same
  have hc : ∀ i, ∃ o : Obj, i < cn.length → h₁.get? (h.objs.size + 1 + i) = some o ∧ o.data = .cell (cb[i]?).join := by
    intro i
    by_cases hi : i < cn.length
    · obtain ⟨c, h1, h2, h3⟩ := hcells h.objs.size i cn[i] (by simp [hi])
      have I2 := I₁.cell _ c h1
      obtain ⟨o, ho, hd⟩ := I2
      exact ⟨o, fun _ => ⟨h2 ▸ ho, by rw [hd]; exact congrArg Data.cell h3⟩⟩
    · exact ⟨default, fun h => absurd h hi⟩
  refine wpAny_mono (hh h.objs.size h₁ tk₁ (fun i => Classical.choose (hc i)) (fun i hi => (Classical.choose_spec (hc i) hi).2) ?_ R.deeper) (fun _ _ x => x) (fun _ _ x => x.elim)
  refine ⟨⟨_, ⟨I₁.toInCall.ns, I₁.toInCall.keep, I₁.toInCall.fresh⟩, fun x v e => hlb _ x v e⟩, fun p hp => ?_, ?_⟩
  · obtain ⟨i, hi, rfl⟩ := List.mem_map.mp hp
    have hi' := List.mem_range.mp hi
    refine ⟨(Classical.choose_spec (hc i) hi').1, ?_, ?_⟩
    · show h.objs.size + 1 + i ≠ h.objs.size; omega
    · cases e : h.get? (h.objs.size + 1 + i) with
      | none => rfl
      | some o => exact absurd (Heap.lt_size e) (Nat.not_lt.mpr (Nat.le_trans (Nat.le_succ _) (Nat.le_add_right _ i)))
  · rw [List.map_map]
    exact List.pairwise_map.mpr (List.Pairwise.imp (fun hne e => hne (by simpa using e)) List.nodup_range)
end Mine
end
section
open PySem PySem.W PyProof PyProof.Rows
set_option maxRecDepth 100000
namespace Mine
def Sat {α : Type} (lt : Nat → Nat → Bool) (n : Nat) : KasT α → (α → Prop) → Prop
  | .ret a, P => P a
  | .ask i j k, P => i < n ∧ j < n ∧ Sat lt n (k (lt i j)) P
theorem Sat.bind {α β : Type} {lt : Nat → Nat → Bool} {n : Nat} {f : α → KasT β} {P : β → Prop} : ∀ (t : KasT α), Sat lt n t (fun a => Sat lt n (f a) P) → Sat lt n (t.bind f) P
  | .ret _, h => h
  | .ask i j k, ⟨h1, h2, h3⟩ => ⟨h1, h2, Sat.bind (k (lt i j)) h3⟩
theorem Sat.mono {α : Type} {lt : Nat → Nat → Bool} {n : Nat} {P Q : α → Prop} : ∀ (t : KasT α), Sat lt n t P → (∀ a, P a → Q a) → Sat lt n t Q
  | .ret _, h, q => q _ h
  | .ask i j k, ⟨h1, h2, h3⟩, q => ⟨h1, h2, Sat.mono (k (lt i j)) h3 q⟩
theorem Sat.wp {α : Type} {lt : Nat → Nat → Bool} {n : Nat} {cmp : Nat → Nat → (Bool → Shared → Prop) → Shared → Prop} {P : α → Prop} {Q : α → Shared → Prop} {I : Shared → Prop}
    (hc : ∀ i j C s, i < n → j < n → I s → (∀ s', I s' → C (lt i j) s') → cmp i j C s) (hq : ∀ a s, P a → I s → Q a s) : ∀ (t : KasT α) (s : Shared), Sat lt n t P → I s → t.kasWp cmp Q s
  | .ret _, _, h, hi => hq _ _ h hi
  | .ask i j k, s, ⟨h1, h2, h3⟩, hi => hc i j _ s h1 h2 hi fun s' hi' => Sat.wp hc hq (k (lt i j)) s' h3 hi'
structure Pm (n : Nat) (p : Array Nat) : Prop where
  size : p.size = n
  perm : p.toList.Perm (List.range n)
abbrev at' (p : Array Nat) (a : Nat) : Nat := p.getD a 0
theorem at_get (p : Array Nat) (a : Nat) : at' p a = (p[a]?).getD 0 := by simp [at']
section
variable {n : Nat} {key : Nat → Nat} (hk : ∀ i j, i < n → j < n → key i = key j → i = j)
theorem Pm.lt {p : Array Nat} (h : Pm n p) {a : Nat} (ha : a < n) : at' p a < n := by
  have : p[a]'(by rw [h.size]; exact ha) ∈ p.toList := by simp
  have := h.perm.mem_iff.mp this
  rw [at_get, Array.getElem?_eq_getElem (by rw [h.size]; exact ha)]
  simpa using this
theorem Pm.inj {p : Array Nat} (h : Pm n p) {a b : Nat} (ha : a < n) (hb : b < n) (e : at' p a = at' p b) : a = b := by
  have nd : p.toList.Nodup := h.perm.nodup_iff.mpr List.nodup_range
  rw [at_get, at_get, Array.getElem?_eq_getElem (by rw [h.size]; exact ha), Array.getElem?_eq_getElem (by rw [h.size]; exact hb)] at e
  simp only [Option.getD_some] at e
  have := (List.getElem_inj (xs := p.toList) (i := a) (j := b) (h₀ := by simp [h.size, ha]) (h₁ := by simp [h.size, hb]) nd).mp (by simpa using e)
  exact this
def Asc (key : Nat → Nat) (p : Array Nat) (m : Nat) : Prop := ∀ a b, a < b → b < m → key (at' p a) < key (at' p b)
def Dsc (key : Nat → Nat) (p : Array Nat) (m : Nat) : Prop := ∀ a b, a < b → b < m → key (at' p b) < key (at' p a)
theorem Asc.step {p : Array Nat} {m : Nat} (h1 : 1 ≤ m) (h : Asc key p m) (hl : key (at' p (m - 1)) < key (at' p m)) : Asc key p (m + 1) := by
  intro a b hab hb
  by_cases e : b = m
  · subst e
    by_cases e2 : a = b - 1
    · rw [e2]; exact hl
    · exact Nat.lt_trans (h a (b - 1) (by omega) (by omega)) hl
  · exact h a b hab (by omega)
theorem Dsc.step {p : Array Nat} {m : Nat} (h1 : 1 ≤ m) (h : Dsc key p m) (hl : key (at' p m) < key (at' p (m - 1))) : Dsc key p (m + 1) := by
  intro a b hab hb
  by_cases e : b = m
  · subst e
    by_cases e2 : a = b - 1
    · rw [e2]; exact hl
    · exact Nat.lt_trans hl (h a (b - 1) (by omega) (by omega))
  · exact h a b hab (by omega)
abbrev ltK (key : Nat → Nat) (i j : Nat) : Bool := decide (key i < key j)
include hk in
theorem Pm.ne {p : Array Nat} (h : Pm n p) {a b : Nat} (ha : a < n) (hb : b < n) (hne : a ≠ b) : key (at' p a) ≠ key (at' p b) :=
  fun e => hne (h.inj ha hb (hk _ _ (h.lt ha) (h.lt hb) e))
include hk in
theorem asc_sat {p : Array Nat} (hp : Pm n p) : ∀ (f m : Nat), 1 ≤ m → m + f = n → Asc key p m → Sat (ltK key) n (kas_asc p f m) (fun r => m ≤ r ∧ r ≤ n ∧ Asc key p r ∧ (r = n ∨ key (at' p r) < key (at' p (r - 1))))
  | 0, m, h1, hm, ha => ⟨Nat.le_refl _, by omega, ha, .inl (by omega)⟩
  | f + 1, m, h1, hm, ha => by
    refine ⟨hp.lt (by omega), hp.lt (by omega), ?_⟩
    by_cases hc : key (at' p m) < key (at' p (m - 1))
    · rw [show ltK key (p.getD m 0) (p.getD (m - 1) 0) = true from decide_eq_true hc]
      exact ⟨Nat.le_refl _, by omega, ha, .inr hc⟩
    · rw [show ltK key (p.getD m 0) (p.getD (m - 1) 0) = false from decide_eq_false hc]
      have hne := hp.ne hk (a := m) (b := m - 1) (by omega) (by omega) (by omega)
      exact Sat.mono _ (asc_sat hp f (m + 1) (by omega) (by omega) (ha.step h1 (by omega))) fun r hr => ⟨by omega, hr.2⟩
include hk in
theorem desc_sat {p : Array Nat} (hp : Pm n p) : ∀ (f m : Nat), 1 ≤ m → m + f = n → Dsc key p m → Sat (ltK key) n (kas_desc f p m 0) (fun r => r.1 = p ∧ r.2.2 = 0 ∧ m ≤ r.2.1 ∧ r.2.1 ≤ n ∧ Dsc key p r.2.1)
  | 0, m, h1, hm, ha => ⟨rfl, rfl, Nat.le_refl _, (show m ≤ n by omega), ha⟩
  | f + 1, m, h1, hm, ha => by
    refine ⟨hp.lt (by omega), hp.lt (by omega), ?_⟩
    by_cases hc : key (at' p m) < key (at' p (m - 1))
    · rw [show ltK key (p.getD m 0) (p.getD (m - 1) 0) = true from decide_eq_true hc]
      exact Sat.mono _ (desc_sat hp f (m + 1) (by omega) (by omega) (ha.step h1 hc)) fun r hr => ⟨hr.1, hr.2.1, by omega, hr.2.2.2⟩
    · rw [show ltK key (p.getD m 0) (p.getD (m - 1) 0) = false from decide_eq_false hc]
      have hne := hp.ne hk (a := m) (b := m - 1) (by omega) (by omega) (by omega)
      refine ⟨hp.lt (by omega), hp.lt (by omega), ?_⟩
      rw [show ltK key (p.getD (m - 1) 0) (p.getD m 0) = true from decide_eq_true (by show key (at' p (m - 1)) < key (at' p m); omega)]
      exact ⟨rfl, rfl, Nat.le_refl _, (show m ≤ n by omega), ha⟩
theorem rev_pm {p : Array Nat} (hp : Pm n p) (m : Nat) : Pm n (kas_rev p 0 m) := 
  ⟨(mirror_size ..).trans hp.size, ((mirror_perm ..).toList).trans hp.perm⟩
theorem rev_asc {p : Array Nat} (hp : Pm n p) {m : Nat} (hm : m ≤ n) (hd : Dsc key p m) : Asc key (kas_rev p 0 m) m := by
  intro a b hab hb
  have e : ∀ c, c < m → at' (kas_rev p 0 m) c = at' p (m - 1 - c) := fun c hc => by
    rw [at_get, at_get]
    unfold kas_rev
    rw [getElem?_mirror_all (by rw [hp.size]; exact hm), if_pos (by omega)]
    congr 2; omega
  rw [e a (by omega), e b hb]
  exact hd _ _ (by omega) (by omega)
include hk in
theorem tail3_sat {p : Array Nat} (hp : Pm n p) {m : Nat} (h1 : 1 ≤ m) (hm : m ≤ n) (hd : Dsc key p m) : Sat (ltK key) n (kas_tail3 m n p) (fun r => Pm n r.2 ∧ 1 ≤ r.1 ∧ r.1 ≤ n ∧ Asc key r.2 r.1) := by
  unfold kas_tail3
  refine Sat.bind _ (Sat.mono _ (asc_sat hk (rev_pm hp m) (n - m) m h1 (by omega) (rev_asc hp hm hd)) fun r hr => ?_)
  exact ⟨rev_pm hp m, by omega, hr.2.1, hr.2.2.1⟩
include hk in
theorem descPart_sat {p : Array Nat} (hp : Pm n p) (h2 : 2 ≤ n) (hd : key (at' p 1) < key (at' p 0)) : Sat (ltK key) n (kas_descPart 1 n p) (fun r => Pm n r.2 ∧ 1 ≤ r.1 ∧ r.1 ≤ n ∧ Asc key r.2 r.1) := by
  unfold kas_descPart
  have h0 : Dsc key p 2 := by
    intro a b hab hb
    have : a = 0 ∧ b = 1 := by omega
    rw [this.1, this.2]; exact hd
  refine Sat.bind _ (Sat.mono _ (desc_sat hk hp (n - (1 + 1)) (1 + 1) (by omega) (by omega) h0) fun r hr => ?_)
  obtain ⟨e1, e2, h3, h4, h5⟩ := hr
  rw [e2, if_neg (by omega), e1]
  exact tail3_sat hk hp (by omega) h4 h5
include hk in
theorem count_sat {p : Array Nat} (hp : Pm n p) (h2 : 2 ≤ n) : Sat (ltK key) n (kas_count n p) (fun r => Pm n r.2 ∧ 1 ≤ r.1 ∧ r.1 ≤ n ∧ Asc key r.2 r.1) := by
  unfold kas_count
  have h0 : Asc key p 1 := by intro a b hab hb; omega
  refine Sat.bind _ (Sat.mono _ (asc_sat hk hp (n - 1) 1 (by omega) (by omega) h0) fun m hm => ?_)
  obtain ⟨h3, h4, h5, h6⟩ := hm
  by_cases e : m = n
  · rw [if_pos (by simpa using e)]
    exact ⟨hp, h3, h4, h5⟩
  · rw [if_neg (by simpa using e)]
    by_cases e1 : m > 1
    · rw [if_pos e1]
      refine ⟨hp.lt (by omega), hp.lt (by omega), ?_⟩
      rw [show ltK key (p.getD 0 0) (p.getD (m - 1) 0) = true from decide_eq_true (h5 0 (m - 1) (by omega) (by omega))]
      exact ⟨hp, h3, h4, h5⟩
    · rw [if_neg e1]
      have : m = 1 := by omega
      subst this
      exact descPart_sat hk hp h2 (by rcases h6 with h | h; exact absurd h e; exact h)
include hk in
theorem place_sat {p : Array Nat} (hp : Pm n p) {k : Nat} (hkn : k < n) : ∀ (f l r : Nat), r - l ≤ f → l ≤ r → r ≤ k → (∀ a, a < l → key (at' p a) < key (at' p k)) → (∀ a, r ≤ a → a < k → key (at' p k) < key (at' p a)) → Asc key p k →
    Sat (ltK key) n (kas_place p k f l r) (fun m => m ≤ k ∧ (∀ a, a < m → key (at' p a) < key (at' p k)) ∧ (∀ a, m ≤ a → a < k → key (at' p k) < key (at' p a)))
  | 0, l, r, hf, hlr, hrk, h1, h2, ha => by
    have : l = r := by omega
    subst this
    exact ⟨hrk, h1, h2⟩
  | f + 1, l, r, hf, hlr, hrk, h1, h2, ha => by
    show Sat (ltK key) n (if l ≥ r then _ else _) _
    by_cases e : l ≥ r
    · rw [if_pos e]
      have : l = r := by omega
      subst this
      exact ⟨hrk, h1, h2⟩
    · rw [if_neg e]
      refine ⟨hp.lt hkn, hp.lt (by omega), ?_⟩
      by_cases hc : key (at' p k) < key (at' p ((l + r) / 2))
      · rw [show ltK key (p.getD k 0) (p.getD ((l + r) / 2) 0) = true from decide_eq_true hc]
        refine place_sat hp hkn f l ((l + r) / 2) (by omega) (by omega) (by omega) h1 (fun a h3 h4 => ?_) ha
        by_cases e2 : a = (l + r) / 2
        · rw [e2]; exact hc
        · exact Nat.lt_trans hc (ha _ a (by omega) h4)
      · rw [show ltK key (p.getD k 0) (p.getD ((l + r) / 2) 0) = false from decide_eq_false hc]
        have hne := hp.ne hk (a := k) (b := (l + r) / 2) hkn (by omega) (by omega)
        refine place_sat hp hkn f ((l + r) / 2 + 1) r (by omega) (by omega) hrk (fun a h3 => ?_) h2 ha
        by_cases e2 : a = (l + r) / 2
        · rw [e2]; omega
        · exact Nat.lt_trans (ha a ((l + r) / 2) (by omega) (by omega)) (by omega)
theorem bub_pm {p : Array Nat} (hp : Pm n p) (k d : Nat) : Pm n (bubble p k d) := ⟨(bubble_size ..).trans hp.size, ((bubble_perm ..).toList).trans hp.perm⟩
theorem bub_asc {p : Array Nat} (hp : Pm n p) {k l : Nat} (hkn : k < n) (hlk : l ≤ k) (ha : Asc key p k) (h1 : ∀ a, a < l → key (at' p a) < key (at' p k)) (h2 : ∀ a, l ≤ a → a < k → key (at' p k) < key (at' p a)) : Asc key (bubble p k (k - l)) (k + 1) := by
  have e : ∀ c, at' (bubble p k (k - l)) c = if c = l then at' p k else if l < c ∧ c ≤ k then at' p (c - 1) else at' p c := fun c => by
    rw [at_get, getElem?_bubble (by rw [hp.size]; exact hkn) _ (by omega), show k - (k - l) = l by omega]
    repeat' split
    all_goals simp
  intro a b hab hb
  rw [e a, e b]
  repeat' split
  all_goals first
    | (exfalso; omega)
    | exact h2 _ (by omega) (by omega)
    | exact h1 _ (by omega)
    | exact ha _ _ (by omega) (by omega)
include hk in
theorem bin_sat : ∀ (f : Nat) (p : Array Nat) (k : Nat), Pm n p → k + f = n → Asc key p k → Sat (ltK key) n (kas_bin f p k) (fun p => Pm n p ∧ Asc key p n)
  | 0, p, k, hp, hf, ha => ⟨hp, by have : k = n := by omega
                                   exact this ▸ ha⟩
  | f + 1, p, k, hp, hf, ha => by
    show Sat (ltK key) n ((kas_place p k k 0 k).bind _) _
    refine Sat.bind _ (Sat.mono _ (place_sat hk hp (k := k) (by omega) k 0 k (by omega) (by omega) (Nat.le_refl _) (fun a h => absurd h (Nat.not_lt_zero _)) (fun a h1 h2 => by omega) ha) fun l hl => ?_)
    exact bin_sat f (bubble p k (k - l)) (k + 1) (bub_pm hp _ _) (by omega) (bub_asc hp (by omega) hl.1 ha hl.2.1 hl.2.2)
include hk in
theorem sort_sat (h2 : 2 ≤ n) : Sat (ltK key) n (kas_sort n) (fun p => Pm n p ∧ Asc key p n) := by
  unfold kas_sort
  have hp : Pm n (List.toArray (List.range n)) := ⟨by simp, by simp⟩
  refine Sat.bind _ (Sat.mono _ (count_sat hk hp h2) fun r hr => ?_)
  obtain ⟨h3, h4, h5, h6⟩ := hr
  by_cases e : r.1 < n
  · rw [if_pos e]
    have : max r.1 1 = r.1 := by omega
    rw [this]
    exact bin_sat hk _ _ _ h3 (by omega) h6
  · rw [if_neg e]
    have : r.1 = n := by omega
    exact ⟨h3, this ▸ h6⟩
end
end Mine
end
section
open PySem PySem.W PyProof PyProof.Rows
set_option maxRecDepth 100000
namespace Mine
def PairsIn (mu : List (Addr × Obj)) (vs : List Value) (ps : List (Nat × Nat)) : Prop := vs.length = ps.length ∧ ∀ (i : Nat) (p : Nat × Nat), ps[i]? = some p → ∃ (a : Addr) (t u : Tok), vs[i]? = some (Value.ref a) ∧ (a, tobj [.int (p.1 : Nat) t, .int (p.2 : Nat) u]) ∈ mu
theorem PairsIn.mono {mu mu' : List (Addr × Obj)} {vs ps} (h : PairsIn mu vs ps) (hs : ∀ p ∈ mu, p ∈ mu') : PairsIn mu' vs ps :=
  ⟨h.1, fun i p e => let ⟨a, t, u, h1, h2⟩ := h.2 i p e; ⟨a, t, u, h1, hs _ h2⟩⟩
abbrev pkey (p : Nat × Nat) : Nat := p.1 * 1000 + p.2
section
variable {prog : Program} {w : World} {A : Around} {E : Value → Shared → Prop} {s : Shared} {h : Heap} {tk : Nat}
theorem lt_pairs {a b : Addr} {x1 x2 y1 y2 : Nat} {t1 t2 u1 u2 : Tok} {Q : Bool → Shared → Prop} (ha : s.heap.get? a = some (tobj [.int (x1 : Nat) t1, .int (x2 : Nat) t2])) (hb : s.heap.get? b = some (tobj [.int (y1 : Nat) u1, .int (y2 : Nat) u2]))
    (hx : x2 < 1000) (hy : y2 < 1000) (hq : Q (decide (x1 * 1000 + x2 < y1 * 1000 + y2)) s) : wpAny (model prog w) A (keyLt' (tuples' true) (.ref a) (.ref b)) Q E s := by
  refine kat_lt ha rfl hb rfl ?_
  show KatLex prog w A true _ Q [(.int (x1 : Nat) t1, .int (y1 : Nat) u1), (.int (x2 : Nat) t2, .int (y2 : Nat) u2)] 0 s
  refine kat_cons (wpAny_eqBool_int ?_)
  by_cases e : x1 = y1
  · subst e
    rw [show (((x1 : Nat) : Int) == ((x1 : Nat) : Int)) = true from by simp]
    refine kat_yes (kat_cons (wpAny_eqBool_int ?_))
    by_cases e2 : x2 = y2
    · subst e2
      rw [show (((x2 : Nat) : Int) == ((x2 : Nat) : Int)) = true from by simp]
      refine kat_yes (kat_nil ?_)
      have : decide (([Value.int (x1 : Nat) t1, .int (x2 : Nat) t2].toArray).size < ([Value.int (x1 : Nat) u1, .int (x2 : Nat) u2].toArray).size) = decide (x1 * 1000 + x2 < x1 * 1000 + x2) := by simp
      rw [this]; exact hq
    · rw [show (((x2 : Nat) : Int) == ((y2 : Nat) : Int)) = false from by simp; omega]
      refine kat_no (kat_one _ _ (lt_int ?_))
      have : decide (((x2 : Nat) : Int) < ((y2 : Nat) : Int)) = decide (x1 * 1000 + x2 < x1 * 1000 + y2) := by
        rw [Bool.eq_iff_iff]; simp only [decide_eq_true_eq]; omega
      show Q _ s
      rw [this]; exact hq
  · rw [show (((x1 : Nat) : Int) == ((y1 : Nat) : Int)) = false from by simp; omega]
    refine kat_no (oneLt_int ?_)
    have : decide (((x1 : Nat) : Int) < ((y1 : Nat) : Int)) = decide (x1 * 1000 + x2 < y1 * 1000 + y2) := by
      rw [Bool.eq_iff_iff]; simp only [decide_eq_true_eq]; omega
    rw [this]; exact hq
/-- a short list -/
theorem sort_short {a : Addr} {vs : List Value} {n : Nat} {P : PySem.Fin → Shared → Prop} (ho : s.heap.get? a = some (seqObj "list" vs.toArray n)) (h2 : vs.length < 2)
    (hq : ∀ h' c, (∀ b o, b ≠ a → s.heap.get? b = some o → h'.get? b = some o) → h'.get? a = some (seqObj "list" vs.toArray c) → P (.done (.ret .none)) { s with heap := h' }) :
    wpAny (model prog w) A (Builtin.«list.sort» ⟨[.ref a], []⟩) P E s := by
  have ha : a < s.heap.objs.size := Heap.lt_size ho
  have s1 := Heap.SameBut.update s.heap a (Obj.mapSeq fun _ => (#[] : Array Value))
  obtain ⟨e1, ho1⟩ : ∃ e1, (s.heap.update a (Obj.mapSeq fun _ => (#[] : Array Value))).get? a = some (seqObj "list" #[] e1) := ⟨_, get?_update_seq ho fun _ => #[]⟩
  rw [list_sort_plain]
  refine wpAny_bind (listItems_at ho rfl ?_)
  refine wpAny_bind (listUpdate_at ho rfl ?_ (by rw [List.size_toArray, sizeLine_eq]; omega) (Nat.zero_le _))
  refine wpAny_bind (seqEpoch_at ho1 rfl ?_)
  refine wpAny_bind (wpAny_newTuple ?_ (by show vs.length ≤ _; rw [sizeLine_eq]; omega))
  refine wpAny_bind (wpAny_newList ?_ (Nat.zero_le _))
  refine wpAny_holding ?_
  show wpAny (model prog w) A _ P E { s with heap := ((s.heap.update a (Obj.mapSeq fun _ => (#[] : Array Value))).push (seqObj "tuple" vs.toArray 0)).push (seqObj "list" #[] 0) }
  dsimp only
  have hn2 : vs.toArray.size < 2 := by rw [List.size_toArray]; omega
  rw [if_pos hn2, if_pos hn2]
  refine wpAny_bind (wpAny_pure ?_)
  rw [StateT.run_pure]
  refine wpAny_bind (wpAny_pure ?_)
  dsimp only
  have ho6 := Heap.get?_push_of_some (seqObj "list" #[] 0) (Heap.get?_push_of_some (seqObj "tuple" vs.toArray 0) ho1)
  have hout : (arrOf (SortSt.mk' general' (vs.toArray.zip vs.toArray) #[] 7 none)).map (·.2) = vs.toArray := by
    show (vs.toArray.zip vs.toArray).map (·.2) = vs.toArray
    apply Array.ext'
    simp
    exact List.map_snd_zip (Nat.le_refl _)
  refine wpAny_bind (seqEpoch_at ho6 rfl ?_)
  rw [hout]
  refine wpAny_bind (listUpdate_at ho6 rfl ?_ (Nat.zero_le _) (by rw [List.size_toArray, sizeLine_eq]; omega))
  simp only [bne_self_eq_false, Bool.false_eq_true, if_false]
  obtain ⟨c2, hc2⟩ : ∃ c2, ((((s.heap.update a (Obj.mapSeq fun _ => (#[] : Array Value))).push (seqObj "tuple" vs.toArray 0)).push (seqObj "list" #[] 0)).update a (Obj.mapSeq fun _ => vs.toArray)).get? a = some (seqObj "list" vs.toArray c2) := ⟨_, get?_update_seq ho6 fun _ => vs.toArray⟩
  refine wpAny_pure (hq _ c2 (fun b o hb e => ?_) hc2)
  rw [Heap.get?_update_other _ _ (Ne.symm hb)]
  exact Heap.get?_push_of_some _ (Heap.get?_push_of_some _ ((s1.2 b hb).trans e))
end
end Mine
end
section
open PySem PySem.W PyProof PyProof.Rows
set_option maxRecDepth 100000
namespace Mine
section
variable {prog : Program} {w : World} {A : Around} {E : Value → Shared → Prop} {s : Shared} {h : Heap} {tk : Nat}
theorem sorted_short {l : Addr} {vs : List Value} {Q : Value → Shared → Prop} (hl : s.heap.IsList l vs.toArray) (h2 : vs.length < 2)
    (hq : ∀ D c h', (∀ b o, s.heap.get? b = some o → h'.get? b = some o) → s.heap.get? D = none → h'.get? D = some (seqObj "list" vs.toArray c) → Q (.ref D) { s with heap := h' }) :
    wpAny (model prog w) A (call (.builtin "sorted") [.ref l]) Q E s := by
  refine Calls.call_function_entry kind_sorted plain_sorted entry_sorted (args_sorted1 _) ?_
  unfold Builtin.«sorted»
  refine wpAny_bind (m := checkCount "sorted" 1 1 _) (wpAny_pure ?_)
  refine wpAny_bind (collect_list hl ?_ (by rw [sizeLine_eq]; omega))
  refine wpAny_bind (wpAny_newList ?_ (by rw [sizeLine_eq]; omega))
  have hsz : ((s.heap.push (seqObj "list" #[] 0)).update s.heap.objs.size (Obj.mapSeq (· ++ vs.toArray))).objs.size = s.heap.objs.size + 1 := by
    rw [Heap.size_update, size_push']
  have hoL : (((s.heap.push (seqObj "list" #[] 0)).update s.heap.objs.size (Obj.mapSeq (· ++ vs.toArray))).push (seqObj "list" vs.toArray 0)).get? (s.heap.objs.size + 1) = some (seqObj "list" vs.toArray 0) := by
    rw [← hsz]; exact Heap.get?_push_size _ rfl
  have keep : ∀ b o, s.heap.get? b = some o → (((s.heap.push (seqObj "list" #[] 0)).update s.heap.objs.size (Obj.mapSeq (· ++ vs.toArray))).push (seqObj "list" vs.toArray 0)).get? b = some o := fun b o q => by
    have hlt : b < s.heap.objs.size := Heap.lt_size q
    rw [Heap.get?_push_ne _ _ _ (by rw [hsz]; exact Nat.ne_of_lt (Nat.lt_succ_of_lt hlt)), Heap.get?_update_ne _ _ _ _ (Nat.ne_of_lt hlt), Heap.get?_push_ne _ _ _ (Nat.ne_of_lt hlt)]
    exact q
  show wpAny _ _ _ _ _ { s with heap := ((s.heap.push (seqObj "list" #[] 0)).update s.heap.objs.size (Obj.mapSeq (· ++ vs.toArray))).push (seqObj "list" vs.toArray 0) }
  rw [hsz]
  refine wpAny_bind (wpAny_holding (wpAny_call_entry slot_list_sort ⟨_, hoL, rfl⟩ entry_list_sort ?body (args_list_sort _)))
  case body =>
    refine sort_short (s := { s with heap := ((s.heap.push (seqObj "list" #[] 0)).update s.heap.objs.size (Obj.mapSeq (· ++ vs.toArray))).push (seqObj "list" vs.toArray 0) }) hoL h2 fun h' c hk ho => ?_
    refine ⟨_, rfl, wpAny_pure ⟨_, rfl, hq _ c h' (fun b o e => hk b o (Nat.ne_of_lt (Nat.lt_succ_of_lt (Heap.lt_size e))) (keep b o e)) ?_ ho⟩⟩
    cases e : s.heap.get? (s.heap.objs.size + 1) with
    | none => rfl
    | some o => exact absurd (Heap.lt_size e) (Nat.not_lt.mpr (Nat.le_succ _))
theorem kat_of {h : Heap} : ∀ (vs : List Value), (∀ v ∈ vs, ∃ (b : Addr) (x y : Int) (t u : Tok), v = .ref b ∧ h.get? b = some (tobj [.int x t, .int y u])) → ∃ fs, KatTups h vs fs ∧ fs.length = vs.length ∧ ∀ f ∈ fs, ∃ (x : Int) (t : Tok), f = .int x t
  | [], _ => ⟨[], KatTups.nil, rfl, fun _ h => nomatch h⟩
  | v :: vs, hv => by
    obtain ⟨b, x, y, t, u, rfl, e⟩ := hv v (.head _)
    obtain ⟨fs, h1, h2, h3⟩ := kat_of vs fun v h => hv v (.tail _ h)
    refine ⟨.int x t :: fs, KatTups.cons e rfl rfl rfl h1, by simp [h2], fun f hf => ?_⟩
    rcases List.mem_cons.mp hf with rfl | hf
    · exact ⟨x, t, rfl⟩
    · exact h3 f hf
theorem r_sorted {h₀ : Heap} {L l mu} {a : Addr} {vs : List Value} {ps : List (Nat × Nat)} {ep : Nat} {Q : Value → Shared → Prop} (S : Sx h₀ L l mu h) (ha : h.get? a = some (lobj vs ep)) (hp : PairsIn mu vs ps) (h64 : ps.length < 64) (hpl : ∀ p ∈ ps, p.2 < 1000) (hnd : ps.Nodup)
    (hq : ∀ D ep h' out qs, Sx h₀ L l ((D, lobj out ep) :: mu) h' → PairsIn mu out qs → qs.Perm ps → qs.Pairwise (fun p q => pkey p < pkey q) → Q (.ref D) (St s h' tk)) :
    wpAny (model prog w) A (call (.builtin "sorted") [.ref a]) Q E (St s h tk) := by
  have hlen := hp.1
  by_cases h2 : vs.length < 2
  · refine sorted_short (s := St s h tk) (isList_lobj ha) h2 fun D c h' hk hn ho => ?_
    refine hq D c h' vs ps (S.new1 hk ho hn) hp (List.Perm.refl _) ?_
    match ps, hlen with
    | [], _ => exact List.Pairwise.nil
    | [p], _ => simp
    | _ :: _ :: _, e => simp at e; omega
  · obtain ⟨m, F, hlm⟩ := S.fr
    refine kat_sorted (s := St s h tk) F S.nw (isList_lobj ha) (by omega) (by omega) fun D e1 h' F' N' hD => ?_
    have hpi : ∀ i, i < ps.length → ∃ (b : Addr) (t u : Tok), vs.getD i Value.none = .ref b ∧ h'.get? b = some (tobj [.int ((ps.getD i (0, 0)).1 : Nat) t, .int ((ps.getD i (0, 0)).2 : Nat) u]) ∧ (b, tobj [.int ((ps.getD i (0, 0)).1 : Nat) t, .int ((ps.getD i (0, 0)).2 : Nat) u]) ∈ mu := by
      intro i hi
      obtain ⟨b, t, u, e1, e2⟩ := hp.2 i ps[i] (by simp [hi])
      have e3 : ps.getD i (0, 0) = ps[i] := by simp [List.getD_eq_getElem?_getD, hi]
      rw [e3]
      exact ⟨b, t, u, by simp [List.getD_eq_getElem?_getD, e1], (N' _ (.tail _ e2)).1, e2⟩
    have hmem : ∀ i, i < ps.length → ps.getD i (0, 0) ∈ ps := fun i hi => by
      have e3 : ps.getD i (0, 0) = ps[i] := by simp [List.getD_eq_getElem?_getD, hi]
      rw [e3]; exact List.getElem_mem hi
    obtain ⟨fs, hf1, hf2, hf3⟩ := kat_of (h := h') vs fun v hv => by
      obtain ⟨i, hi, rfl⟩ := List.mem_iff_getElem.mp hv
      obtain ⟨b, t, u, g1, g2, _⟩ := hpi i (by omega)
      simp only [List.getD_eq_getElem?_getD, List.getElem?_eq_getElem hi, Option.getD_some] at g1
      exact ⟨b, _, _, t, u, g1, g2⟩
    refine kat_kind (T := .type "int") (fs := fs) hf1 (by omega) (fun v hv => ?_) (by decide) ?_
    · obtain ⟨x, t, rfl⟩ := hf3 v hv
      exact Looks.of_pure rfl
    have hk : ∀ i j, i < vs.length → j < vs.length → pkey (ps.getD i (0, 0)) = pkey (ps.getD j (0, 0)) → i = j := by
      intro i j hi hj e
      rw [hlen] at hi hj
      have h1 := hpl _ (hmem i hi)
      have h2 := hpl _ (hmem j hj)
      have e2 : ps.getD i (0, 0) = ps.getD j (0, 0) := by
        unfold pkey at e
        apply Prod.ext <;> omega
      simp only [List.getD_eq_getElem?_getD, List.getElem?_eq_getElem hi, List.getElem?_eq_getElem hj, Option.getD_some] at e2
      exact (List.getElem_inj hnd).mp e2
    refine Sat.wp (I := fun s' => s' = { St s h tk with heap := h' }) (lt := ltK fun i => pkey (ps.getD i (0, 0))) ?_ ?_ _ _ (sort_sat hk (by omega)) rfl
    · rintro i j C s' hi hj rfl hC
      rw [hlen] at hi hj
      obtain ⟨b1, t1, u1, g1, g2, _⟩ := hpi i hi
      obtain ⟨b2, t2, u2, k1, k2, _⟩ := hpi j hj
      unfold kas_ask
      rw [g1, k1]
      exact lt_pairs g2 k2 (hpl _ (hmem i hi)) (hpl _ (hmem j hj)) (hC _ rfl)
    · rintro p s' ⟨hpm, hasc⟩ rfl
      refine KasFin.intro (news := (D, seqObj "list" #[] e1) :: mu) (g := fun o' => (D, o') :: mu) F' N' (.head fun q hq => Nat.ne_of_lt (hD q hq)) fun h'' c F'' N'' => ?_
      have hsz : p.toList.length = ps.length := by rw [Array.length_toList, hpm.size, hlen]
      have hlt : ∀ i, i < ps.length → at' p i < ps.length := fun i hi => hlen ▸ hpm.lt (hlen.symm ▸ hi)
      have hget : ∀ i, i < ps.length → p.toList[i]? = some (at' p i) := fun i hi => by
        have : i < p.size := by rw [hpm.size, hlen]; exact hi
        rw [at_get]; simp [this]
      refine hq D c h'' (p.toList.map fun i => vs.getD i Value.none) (p.toList.map fun i => ps.getD i (0, 0)) ⟨⟨m, F'', hlm⟩, N'', ?_⟩ ⟨by simp, fun i q e => ?_⟩ ?_ ?_
      · exact List.nodup_cons.mpr ⟨fun hm => by
          obtain ⟨q, hq, e⟩ := List.mem_map.mp hm
          exact absurd (hD q hq) (by rw [e]; exact Nat.lt_irrefl _), S.nd⟩
      · rw [List.getElem?_map] at e
        obtain ⟨k, hk1, rfl⟩ := Option.map_eq_some_iff.mp e
        have hkm : k ∈ p.toList := List.mem_of_getElem? hk1
        have hkl : k < ps.length := by
          have := hpm.perm.mem_iff.mp hkm
          rw [List.mem_range, hlen] at this; exact this
        obtain ⟨b, t, u, e1, _, e3⟩ := hpi k hkl
        exact ⟨b, t, u, by rw [List.getElem?_map, hk1]; exact congrArg some e1, e3⟩
      · have h1 := hpm.perm.map (fun i => ps.getD i (0, 0))
        refine h1.trans ?_
        rw [hlen]
        have : (List.range ps.length).map (fun i => ps.getD i (0, 0)) = ps := by
          apply List.ext_getElem?
          intro i
          rw [List.getElem?_map]
          by_cases hi : i < ps.length
          · simp [hi]
          · simp [hi]
        rw [this]
      · rw [List.pairwise_iff_getElem]
        intro i j hi hj hij
        simp only [List.length_map] at hi hj
        have a1 := hget i (by omega)
        have a2 := hget j (by omega)
        have b1 : p.toList[i] = at' p i := by rw [List.getElem?_eq_getElem hi] at a1; exact Option.some.inj a1
        have b2 : p.toList[j] = at' p j := by rw [List.getElem?_eq_getElem hj] at a2; exact Option.some.inj a2
        simp only [List.getElem_map, b1, b2]
        exact hasc i j hij (by omega)
end
end Mine
end
section
open PySem PySem.W PyProof PyProof.Rows
set_option maxRecDepth 100000
namespace Mine
/-- new objects -/
structure New (h : Heap) (ob : List (Addr × Obj)) (h' : Heap) : Prop where
  k : Keeps h h'
  n : ∀ p ∈ ob, h'.get? p.1 = some p.2 ∧ h.get? p.1 = none
  d : (ob.map (·.1)).Nodup
theorem Sx.new {h h' : Heap} {L l mu} (S : Sx h L l mu h') : New h mu h' := ⟨S.keep, fun p hp => ⟨(S.nw p hp).1, (S.nw p hp).2.2⟩, S.nd⟩
theorem Sx.got {h₀ h h' : Heap} {L l mu ob} (S : Sx h₀ L l mu h) (N : New h ob h') : Sx h₀ L l (ob ++ mu) h' := S.add N.k N.n N.d
theorem New.grow {h h' h'' : Heap} {ob} (N : New h ob h') (hk : Keeps h' h'') : New h ob h'' := ⟨fun b o e => hk b o (N.k b o e), fun p hp => ⟨hk _ _ (N.n p hp).1, (N.n p hp).2⟩, N.d⟩
abbrev ones (cs : List Nat) : List Str := cs.map fun c => (⟨#[c]⟩ : Str)
theorem ones_at {vs : List Value} {cs : List Nat} (h : StrsAre vs (ones cs)) {i c : Nat} (e : cs[i]? = some c) : ∃ t, vs[i]? = some (.str ⟨#[c]⟩ t) :=
  h.at (by rw [List.getElem?_map, e]; rfl)
theorem ones_len {vs : List Value} {cs : List Nat} (h : StrsAre vs (ones cs)) : vs.length = cs.length := by rw [h.len_eq, List.length_map]
section
variable {prog : Program} {w : World} {A : Around} {E : Value → Shared → Prop} {s : Shared} {h : Heap} {tk : Nat} {u : Tok} {Q : Value → Shared → Prop}
theorem r_itemL {value slice : Expr} {a : Addr} {vs : List Value} {ep : Nat} {i : Int} {n : Nat} {v : Value} (ha : h.get? a = some (lobj vs ep)) (e : i = (n : Nat)) (hv : vs[n]? = some v) (hn : n < 1000000) (hq : Q v (St s h tk))
    (hs : ∀ u, subscripted slice false (.ref a) (.int i u) = operate [.ref a, .int i u] (getItem (.ref a) (.int i u)))
    (ht : ∀ r, letTemporaryGo value (.ref a) r = pure ()) : wpAny (model prog w) A (subscriptTail value slice (.ref a) (.int i u)) Q E (St s h tk) := by
  subst e
  exact item_listL (s := St s h tk) (isList_lobj ha) (by omega) (by omega) (by simpa using hv) hq (hs u) ht
theorem o_lenL {a : Addr} {vs : List Value} {ep : Nat} (ha : h.get? a = some (lobj vs ep)) (hf : vs.length ≤ 16777216) (hq : ∀ t tk', Q (.int (vs.length : Nat) t) (St s h tk')) : wpAny (model prog w) A (call (.builtin "len") [.ref a]) Q E (St s h tk) := by
  refine Calls.call_len_list (s := St s h tk) (isList_lobj ha) (by simp; omega) ?_
  simpa using hq (tk + 1) (tk + 1 + 1)
end
section
variable {M : Model} {A : Around} {E : Value → Shared → Prop} {s : Shared} {h : Heap} {tk : Nat} {a : Addr} {vs : List Value} {ep : Nat} {pl : Sem Bool} {Q : Value × List Value → Shared → Prop}
theorem gm_append_l (ho : h.get? a = some (lobj vs ep)) (hq : Q (.builtin "list.append", [.ref a]) (St s h tk)) : wpAny M A (getMethod (.ref a) "append" pl) Q E (St s h tk) :=
  Calls.getMethod_list_append (s := St s h tk) ho rfl rfl hq
end
theorem r_cellM {M : Model} {A : Around} {E : Value → Shared → Prop} {s : Shared} {h : Heap} {tk : Nat} {env : Env} {h₀ : Heap} {L l mu} {x : Str} {pos : Pos} {c : Addr} {o : Obj} {v : Value} {Q : Value → Shared → Prop} (S : Sx h₀ L l mu h) (hc : env.cells.lookup x = some c) (hm : (c, o) ∈ mu) (hd : o.data = .cell (some v)) (hk : env.scope.kind = .function) (hl : env.kindOf x = some .cell)
    (hdb : (x == ("__debug__" : Str)) = false) (hq : Q v (St s h tk)) : wpAny M A (eval (.Name x pos) env) Q E (St s h tk) := r_cell hc (S.get hm) hd hk hl hdb hq
theorem Sx.updAt {h₀ h h' : Heap} {L l} (pre : List (Addr × Obj)) {post : List (Addr × Obj)} {d : Addr} {o o' : Obj} (S : Sx h₀ L l (pre ++ (d, o) :: post) h) (hs : Heap.SameBut d h h') (ho : h'.get? d = some o') : Sx h₀ L l (pre ++ (d, o') :: post) h' :=
  ((S.perm List.perm_middle.symm).upd hs ho).perm List.perm_middle
section
variable {prog : Program} {w : World} {A : Around} {E : Value → Shared → Prop} {s : Shared} {h : Heap} {tk : Nat} {env : Env}
theorem r_storeCellAt (pre : List (Addr × Obj)) {h₀ : Heap} {L l post} {x : Str} {c : Addr} {o : Obj} {v₀ : Option Value} {v : Value} {Q : Unit → Shared → Prop} (S : Sx h₀ L l (pre ++ (c, o) :: post) h) (hd : o.data = .cell v₀) (hc : env.cells.lookup x = some c) (hk : env.scope.kind = .function) (hl : env.kindOf x = some .cell)
    (hq : ∀ o' h' tk', o'.data = .cell (some v) → Sx h₀ L l (pre ++ (c, o') :: post) h' → Q () (St s h' tk')) : wpAny (model prog w) A (storeName env x v) Q E (St s h tk) :=
  r_storeCell (S.perm List.perm_middle.symm) hd hc hk hl fun o' h' tk' e S' => hq o' h' tk' e (S'.perm List.perm_middle)
theorem r_appendAt (pre : List (Addr × Obj)) {h₀ : Heap} {L l post} {a : Addr} {vs : List Value} {n : Nat} {v : Value} {Q : Value → Shared → Prop} (S : Sx h₀ L l (pre ++ (a, lobj vs n) :: post) h) (hz : vs.length ≤ 1000000) (hq : ∀ h', Sx h₀ L l (pre ++ (a, lobj (vs ++ [v]) (n + 1)) :: post) h' → Q .none (St s h' tk)) :
    wpAny (model prog w) A (call (.builtin "list.append") [.ref a, v]) Q E (St s h tk) :=
  r_append (S.perm List.perm_middle.symm) hz fun h' S' => hq h' (S'.perm List.perm_middle)
theorem r_unpackH {h₀ : Heap} {L l mu} {e1 e2 : Expr} {k pos} {t : Addr} {v1 v2 : Value} {Q : Unit → Shared → Prop} (hh : A.handled = none) (S : Sx h₀ L l ((t, tobj [v1, v2]) :: mu) h)
    (hq : ∀ h', Sx h₀ L l mu h' → wpAny (model prog w) A (assign e1 env v1) (fun _ s₁ => wpAny (model prog w) A (assign e2 env v2) Q E s₁) E (St s h' tk))
    (hl : (assignEach [e1, e2] env) = [(false, assign e1 env), (false, assign e2 env)]) : wpAny (model prog w) A (assign (.Tuple [e1, e2] k pos) env (.ref t)) Q E (St s h tk) :=
  r_unpack2 hh S (S.get (.head _)) (fun h' S' _ => hq h' (S'.drop (List.sublist_cons_self _ _))) hl
theorem r_swpK {h₀ : Heap} {L l mu} {x1 x2 : Str} {t : Addr} {v1 v2 : Value} {Q : Flow → Shared → Prop} (hh : A.handled = none) (S : Sx h₀ L l ((t, tobj [v1, v2]) :: mu) h)
    (hq : ∀ h', Sx h₀ L l mu h' → wpAny (model prog w) A (storeName env x2 v2) (fun _ s₁ => wpAny (model prog w) A (storeName env x1 v1) (fun _ s₂ => Q .next s₂) E s₁) E (St s h' tk)) :
    wpAny (model prog w) A (unpackItems (.ref t) [x1, x2].length none) (fun items s₂ => wpAny (model prog w) A (assignInOrder ([x1, x2].reverse.map fun n => bindName env n) items.reverse) (fun _ => Q .next) E s₂) E (St s h tk) := by
  rw [show [x1, x2].length = ([v1, v2].toArray).size from rfl]
  refine unpackItems_tuple (s := St s h tk) (items := [v1, v2].toArray) hh (isTup_tobj (S.get (.head _))) fun h' he => ?_
  have hk : Keeps h h' := fun b o e => he b o (Nat.ne_of_lt (Heap.lt_size e)) e
  have S' := (S.grow hk).drop (List.sublist_cons_self _ _)
  show wpAny (model prog w) A (assignInOrder [bindName env x2, bindName env x1] [v2, v1]) _ _ _
  refine wpAny_assignInOrder_more (wpAny_bindName (wpAny_mono (hq h' S') (fun _ s₁ h₁ => wpAny_assignInOrder_more (wpAny_bindName (wpAny_mono h₁ (fun _ s₂ h₂ => wpAny_assignInOrder_none h₂) fun _ _ e => e))) fun _ _ e => e))
theorem r_assign2 {x1 x2 : Str} {p1 p2 : Pos} {k tpos value pos} {Q : Flow → Shared → Prop} {s : Shared}
    (h : wpAny (model prog w) A (eval value env) (fun v s₁ => wpAny (model prog w) A (unpackItems v [x1, x2].length none) (fun items s₂ =>
      wpAny (model prog w) A (assignInOrder ([x1, x2].reverse.map fun n => bindName env n) items.reverse) (fun _ => Q .next) E s₂) E s₁) E s)
    (hs : swapsWithSole [.Tuple [.Name x1 p1, .Name x2 p2] k tpos] value pos.line env = pure false)
    (hw : swappedStores [.Tuple [.Name x1 p1, .Name x2 p2] k tpos] value env = pure (some [x1, x2])) :
    wpAny (model prog w) A (exec (.Assign [.Tuple [.Name x1 p1, .Name x2 p2] k tpos] value pos) env) Q E s := Assign_Tuple_swapped h hs hw
end
end Mine
end
section
open PySem PySem.W PyProof PyProof.Rows
set_option maxRecDepth 100000
namespace Mine
section
variable {prog : Program} {w : World} {A : Around} {E : Value → Shared → Prop} {s : Shared} {h : Heap} {tk : Nat} {env : Env} {t u : Tok} {Q : Value → Shared → Prop}
theorem o_max2 {h₀ : Heap} {L l mu} {a b : Int} (hh : A.handled = none) (S : Sx h₀ L l mu h) (hq : ∀ t h' tk', Sx h₀ L l mu h' → Q (.int (max a b) t) (St s h' tk')) : wpAny (model prog w) A (call (.builtin "max") [.int a t, .int b u]) Q E (St s h tk) := by
  refine max_two_ints (s := St s h tk) hh fun h' tk' hk => ?_
  by_cases e : b > a
  · rw [if_pos e, show b = max a b by omega]; exact hq _ _ _ (S.grow hk)
  · rw [if_neg e]
    have := hq t h' tk' (S.grow hk)
    rwa [show max a b = a by omega] at this
theorem o_min2 {h₀ : Heap} {L l mu} {a b : Int} (hh : A.handled = none) (S : Sx h₀ L l mu h) (hq : ∀ t h' tk', Sx h₀ L l mu h' → Q (.int (min a b) t) (St s h' tk')) : wpAny (model prog w) A (call (.builtin "min") [.int a t, .int b u]) Q E (St s h tk) := by
  refine min_two_ints (s := St s h tk) hh fun h' tk' hk => ?_
  by_cases e : b < a
  · rw [if_pos e]
    have := hq u h' tk' (S.grow hk)
    rwa [show min a b = b by omega] at this
  · rw [if_neg e]
    have := hq t h' tk' (S.grow hk)
    rwa [show min a b = a by omega] at this
theorem gm_find {M : Model} {x : Str} {pl : Sem Bool} {Q : Value × List Value → Shared → Prop} (hq : Q (.builtin "str.find", [.str x t]) (St s h tk)) : wpAny M A (getMethod (.str x t) "find" pl) Q E (St s h tk) := GM.find hq
theorem o_find {x y : Str} {i : Int} (e : Txt.find x y = i) (hq : ∀ t tk', Q (.int i t) (St s h tk')) : wpAny (model prog w) A (call (.builtin "str.find") [.str x t, .str y u]) Q E (St s h tk) :=
  SC.find (s := St s h tk) (by rw [e]; exact hq _ _)
theorem o_pow {a b : Int} {n : Nat} (ha : 2 ≤ a) (ha2 : a < 1000) (e : b = (n : Nat)) (hn : n < 100000) (hq : ∀ t tk', Q (.int (a ^ n) t) (St s h tk')) : wpAny (model prog w) A (binaryOp .Pow (.int a t) (.int b u)) Q E (St s h tk) := by
  subst e
  exact pow_int_small (s := St s h tk) (by omega) (by omega) (by omega) (by simpa using hq _ _)
def SlcR (st : Value) (Q : Value → Shared → Prop) (s : Shared) : Prop := Q (.ref s.heap.objs.size) { s with heap := s.heap.push { cls := .type "slice", data := .fields #[.none, .none, st] } }
theorem r_slcStep {st : Expr} {p : Pos} {Q : Value → Shared → Prop} {s : Shared} (k : wpAny (model prog w) A (eval st env) (fun u s₂ => SlcR u Q s₂) E s) : wpAny (model prog w) A (eval (.Slice none none (some st) p) env) Q E s :=
  wpAny_Slice (wpAny_evalPart_none (wpAny_evalPart_none (wpAny_evalPart_some k)))
theorem r_rev {h₀ : Heap} {L l mu} {value slice : Expr} {a : Addr} {vs : List Value} {ep : Nat} (S : Sx h₀ L l mu h) (ha : h.get? a = some (lobj vs ep)) (hz : vs.length ≤ 1000000)
    (hq : ∀ D h', Sx h₀ L l ((D, lobj vs.reverse 0) :: mu) h' → Q (.ref D) (St s h' tk))
    (hs : ∀ r, subscripted slice false (.ref a) (.ref r) = operate [.ref a, .ref r] (getItem (.ref a) (.ref r)))
    (ht : ∀ r, letTemporaryGo value (.ref a) r = pure ()) :
    SlcR (.int (-1) u) (fun i s₂ => wpAny (model prog w) A (subscriptTail value slice (.ref a) i) Q E s₂) (St s h tk) := by
  obtain ⟨m, F, hl⟩ := S.fr
  refine krv_lit (s := St s h tk) F S.nw (isList_lobj ha) (.int _ _) rfl (fun D h' F' N' hD => ?_) (hs _) ht (by rw [sizeLine_eq]; simp; omega)
  refine hq D h' ⟨⟨m, F', hl⟩, N', List.nodup_cons.mpr ⟨fun hm => ?_, S.nd⟩⟩
  obtain ⟨q, hq, e⟩ := List.mem_map.mp hm
  exact absurd (hD q hq) (by rw [e]; exact Nat.lt_irrefl _)
theorem it_listT {a : Addr} {vs : List Value} {n : Nat} {Q : Value → Shared → Prop} (hh : A.handled = none) (ha : h.get? a = some (lobj vs n))
    (hq : ∀ I oI h' StI, IterOk prog w A h I oI h' [a] vs.length (fun i v => vs[i]? = some v) StI → (∀ i g, StI i g → g.IsListIter I a i) → Q (.ref I) (St s h' tk)) : wpAny (model prog w) A (pyIter (.ref a)) Q E (St s h tk) := by
  have hl := isList_lobj ha
  have hne : a ≠ h.objs.size := Nat.ne_of_lt (Heap.lt_size ha)
  have W := Walks.list (prog := prog) (w := w) (A := A) hh h.objs.size a hne vs.toArray
  have kb : Keeps h (h.push { cls := .type "list_iterator", data := .fields #[.ref a, .int 0 0] }) := fun _ _ e => Heap.get?_push_of_some _ e
  have K : IterOk prog w A h h.objs.size { cls := .type "list_iterator", data := .fields #[.ref a, .int 0 0] } (h.push { cls := .type "list_iterator", data := .fields #[.ref a, .int 0 0] }) [a] vs.length (fun i v => vs[i]? = some v) (fun i h' => h'.IsListIter h.objs.size a i ∧ h'.IsList a vs.toArray) := { W := by simpa using W, hst := ⟨⟨_, Heap.get?_push_size _ rfl, rfl, rfl⟩, isList_lobj (kb _ _ ha)⟩, hI := fun _ _ x => let ⟨⟨o, ho, _⟩, _⟩ := x; ⟨o, ho⟩, kb := kb, hsz := by rw [Heap.size_push]; exact Nat.le_succ _, hbI := get_size h, hgI := Heap.get?_push_size _ rfl, hfa := fun b hb => by rw [List.mem_singleton.mp hb]; exact ⟨_, ha⟩ }
  exact wpAny_pyIter_list (s := St s h tk) hl (hq _ _ _ _ K fun i g x => x.1)
end
end Mine
end
section
open PySem PySem.W PyProof PyProof.Rows
set_option maxRecDepth 100000
set_option linter.unusedVariables false
namespace Mine
section
variable {prog : Program} {w : World} {A : Around} {E : Value → Shared → Prop} {s : Shared} {h : Heap} {tk : Nat} {env : Env} {t u : Tok} {Q : Value → Shared → Prop}
theorem o_lenLI {a : Addr} {vs : List Value} (ha : h.IsList a vs.toArray) (hf : vs.length ≤ 16777216) (hq : ∀ t tk', Q (.int (vs.length : Nat) t) (St s h tk')) : wpAny (model prog w) A (call (.builtin "len") [.ref a]) Q E (St s h tk) := by
  refine Calls.call_len_list (s := St s h tk) ha (by simp; omega) ?_
  simpa using hq (tk + 1) (tk + 1 + 1)
theorem Sx.of {h₀ h h' : Heap} {L l} {m : Str → Option Value} {mu : List (Addr × Obj)} {a : Addr} {o : Obj} (S : Sx h₀ L l mu h) (F : Fr h₀ L h' m) (hl : ∀ x v, l.lookup x = some v → m x = some v) (N : News h₀ L h' ((a, o) :: mu)) (hn : h.get? a = none) : Sx h₀ L l ((a, o) :: mu) h' := by
  refine ⟨⟨m, F, hl⟩, N, List.nodup_cons.mpr ⟨fun hm => ?_, S.nd⟩⟩
  obtain ⟨p, hp, e⟩ := List.mem_map.mp hm
  have := (S.nw p hp).1
  rw [e] at this
  dsimp only at this
  rw [hn] at this; cases this
theorem o_sliceL {h₀ : Heap} {L l mu} {value slice : Expr} {a : Addr} {vs : List Value} {ns : List Int} {j : Int} (S : Sx h₀ L l mu h) (ha : h.IsList a vs.toArray) (hi : IntsAre vs ns) (hj : 0 ≤ j) (hz : vs.length ≤ 1000000)
    (hq : ∀ D zs h' tk', Sx h₀ L l ((D, lobj zs 0) :: mu) h' → IntsAre zs (ns.take j.toNat) → Q (.ref D) (St s h' tk'))
    (hs : ∀ r, subscripted slice false (.ref a) (.ref r) = operate [.ref r, .ref a] (getItem (.ref a) (.ref r)))
    (ht : ∀ r, letTemporaryGo value (.ref a) r = pure ()) :
    SlcQ .none (.int j u) (fun i s₂ => wpAny (model prog w) A (subscriptTail value slice (.ref a) i) Q E s₂) (St s h tk) := by
  obtain ⟨m, F, hl⟩ := S.fr
  refine slice_list (s := St s h tk) F S.nw ha .none (.int _ _) (fun h' F' N' => ?_) (hs _) ht (by rw [sizeLine_eq]; simp; omega)
  have hn : h.get? (h.objs.size + 1) = none := by
    cases e : h.get? (h.objs.size + 1) with
    | none => rfl
    | some o => exact absurd (Heap.lt_size e) (Nat.not_lt.mpr (Nat.le_succ _))
  have hzs := slice_ints_uptoW hi hj
  have e : (slicePick vs.toArray none (some j) none) = (slicePick vs.toArray none (some j) none).toList.toArray := by simp
  refine hq _ (slicePick vs.toArray none (some j) none).toList h' tk (S.of F' hl ?_ hn) hzs
  rw [e] at N'
  exact N'
theorem o_addL {h₀ : Heap} {L l mu} {a b : Addr} {vs us : List Value} {ns ms : List Int} (S : Sx h₀ L l mu h) (ha : h.IsList a vs.toArray) (hb : h.IsList b us.toArray) (hi : IntsAre vs ns) (hi2 : IntsAre us ms) (hz : vs.length + us.length ≤ 1000000)
    (hq : ∀ D zs h' tk', Sx h₀ L l ((D, lobj zs 0) :: mu) h' → IntsAre zs (ns ++ ms) → Q (.ref D) (St s h' tk')) : wpAny (model prog w) A (binaryOp .Add (.ref a) (.ref b)) Q E (St s h tk) := by
  obtain ⟨m, F, hl⟩ := S.fr
  exact add_lists (s := St s h tk) F S.nw ha hb (fun h' F' N' => hq _ _ h' tk (S.of F' hl N' (get_size h)) (hi.append hi2)) (by rw [sizeLine_eq]; omega)
theorem o_sum {h₀ : Heap} {L l mu} {a : Addr} {vs : List Value} {ns : List Int} (hh : A.handled = none) (S : Sx h₀ L l mu h) (ha : h.IsList a vs.toArray) (hi : IntsAre vs ns)
    (hq : ∀ t h' tk', Sx h₀ L l mu h' → Q (.int ns.sum t) (St s h' tk')) : wpAny (model prog w) A (call (.builtin "sum") [.ref a]) Q E (St s h tk) := by
  obtain ⟨m, F, hl⟩ := S.fr
  exact LSm.sum_ints (s := St s h tk) F S.nw hh ha hi fun h' tk' t' F' N' => hq t' h' tk' ⟨⟨m, F', hl⟩, N', S.nd⟩
theorem join_nil_consK (a : Str) : ∀ r : List Str, Str.join ⟨#[]⟩ (a :: r) = a ++ Str.join ⟨#[]⟩ r
  | [] => by
    show a = Str.append a ⟨#[]⟩
    obtain ⟨a⟩ := a
    exact congrArg Str.mk (Array.append_empty (xs := a)).symm
  | b :: r => by
    show a ++ (⟨#[]⟩ : Str) ++ Str.join ⟨#[]⟩ (b :: r) = a ++ Str.join ⟨#[]⟩ (b :: r)
    congr 1
theorem join_txts : ∀ ps : List (List Nat), Str.join ⟨#[]⟩ (ps.map fun l => (⟨l.toArray⟩ : Str)) = ⟨ps.flatten.toArray⟩
  | [] => rfl
  | p :: r => by
    rw [List.map_cons, join_nil_consK, join_txts r]
    show Str.append _ _ = _
    simp [Str.append]
theorem txt_join (x : Str) (ys : List Str) : Txt.join x ys = Str.join x ys := StrLaws.glued_eq_join x ys
theorem o_join {a : Addr} {vs : List Value} {ps : List (List Nat)} {ep : Nat} {x : Str} (hx : x = ⟨#[]⟩) (ha : h.get? a = some (lobj vs ep)) (hs : StrsAre vs (ps.map fun l => (⟨l.toArray⟩ : Str))) (hz : ps.flatten.length ≤ 100000)
    (hq : ∀ t tk', Q (.str ⟨ps.flatten.toArray⟩ t) (St s h tk')) : wpAny (model prog w) A (call (.builtin "str.join") [.str x t, .ref a]) Q E (St s h tk) := by
  subst hx
  refine join_list (s := St s h tk) (isList_lobj ha) hs ?_ fun t' k => ?_
  · have : ((ps.map fun l => (⟨l.toArray⟩ : Str)).map (·.length)).sum = ps.flatten.length := by
      rw [List.map_map, List.length_flatten]; rfl
    rw [this]
    show _ + _ * 0 ≤ _
    omega
  · rw [show Txt.join ⟨#[]⟩ (ps.map fun l => (⟨l.toArray⟩ : Str)) = ⟨ps.flatten.toArray⟩ from (txt_join _ _).trans (join_txts ps)]
    exact hq t' k
theorem ones_flat (cs : List Nat) : (cs.map fun c => [c]).flatten = cs := by
  induction cs with
  | nil => rfl
  | cons c r ih => simpa using ih
theorem strs_of : ∀ (vs : List Value) (cs : List Nat), vs.length = cs.length → (∀ (j : Nat) (v : Value), vs[j]? = some v → ∃ (c : Nat) (u : Tok), cs[j]? = some c ∧ v = Value.str ⟨#[c]⟩ u) → StrsAre vs (cs.map fun c => (⟨#[c]⟩ : Str))
  | [], [], _, _ => .nil
  | [], _ :: _, h, _ => by cases h
  | _ :: _, [], h, _ => by cases h
  | v :: vs, c :: cs, h, k => by
    obtain ⟨c', u, h1, h2⟩ := k 0 v rfl
    cases h1
    subst h2
    exact .cons _ _ (strs_of vs cs (by simpa using h) fun j v e => k (j + 1) v e)
theorem o_listS {h₀ : Heap} {L l mu} {cs : List Nat} (hh : A.handled = none) (S : Sx h₀ L l mu h) (hz : cs.length ≤ 100000)
    (hq : ∀ D zs ep h' tk', Sx h₀ L l ((D, lobj zs ep) :: mu) h' → StrsAre zs (ones cs) → Q (.ref D) (St s h' tk')) : wpAny (model prog w) A (call (.type "list") [.str ⟨cs.toArray⟩ t]) Q E (St s h tk) := by
  refine call_list_str (s := St s h tk) hh ⟨cs.toArray⟩ t (fun h' tk' acc c hk hD hacc => ?_) (by rw [sizeLine_eq]; simp; omega)
  have e : ({ cls := .type "list", dict := none, data := .seq acc c, slots := #[] } : Obj) = lobj acc.toList c := by unfold lobj; simp
  rw [e] at hD
  refine hq h.objs.size acc.toList c h' tk' (S.new1 hk hD (get_size h)) (strs_of _ _ (by have := hacc.1; simpa using this) fun j v hv => ?_)
  obtain ⟨c', u', h1, h2⟩ := hacc.2 j v (by simpa using hv)
  exact ⟨c', u', by simpa using h1, h2⟩
theorem gm_join {M : Model} {x : Str} {pl : Sem Bool} {Q : Value × List Value → Shared → Prop} (hq : Q (.builtin "str.join", [.str x t]) (St s h tk)) : wpAny M A (getMethod (.str x t) "join" pl) Q E (St s h tk) := GM.join hq
theorem c_forIt {target body} {Q : Flow → Shared → Prop} {h₀ : Heap} {L l mu} {hb : Heap} {I : Addr} {oI : Obj} {fa : List Addr} {n : Nat} {P : Nat → Value → Prop} {StI : Nat → Heap → Prop}
    (K : IterOk prog w A hb I oI h fa n P StI) (S : Sx h₀ L l mu hb) 
    (J : Nat → List (Str × Value) → List (Addr × Obj) → Prop) (hj : J 0 l mu)
    (hfp : ∀ b ∈ fa, ∃ o, ∀ i l' mu' h', J i l' mu' → Sx h₀ L l' mu' h' → h'.get? b = some o)
    (hlet : ∀ i v h tk Q E, P i v → StI (i + 1) h → Q () (St s h tk) → wpAny (model prog w) A (letOwnedTupleGo target (.ref I) v) Q E (St s h tk))
    (turn : ∀ i v l' mu' o h' tk', i < n → P i v → J i l' mu' → Sx h₀ L l' ((I, o) :: mu') h' → ∀ Q' : Flow → Shared → Prop, (∀ {l mu h tk}, Sx h₀ L l (mu ++ [(I, o)]) h → J (i + 1) l mu → Q' .next (St s h tk)) → 
      wpAny (model prog w) A (assign target env v) (fun _ s₂ => wpC (model prog w) A (execs body env) Q' (fun _ _ => False) s₂) (fun _ _ => False) (St s h' tk'))
    (done : ∀ l' mu' h' tk', J n l' mu' → Sx h₀ L l' mu' h' → Q .next (St s h' tk')) :
    ForC prog w A env target body Q (.ref I) (St s h tk) := by
  have S1 : Sx h₀ L l ((I, oI) :: mu) h := S.new1 K.kb K.hgI K.hbI
  refine codeC_forLoop (fun k s' => ∃ i l' mu' o h' tk', s' = St s h' tk' ∧ i ≤ n ∧ k = n - i ∧ J i l' mu' ∧ StI i h' ∧ Sx h₀ L l' ((I, o) :: mu') h') ?_ n ⟨0, l, mu, oI, h, tk, rfl, Nat.zero_le _, rfl, hj, K.hst, S1⟩
  rintro k s' ⟨i, l', mu', o, h', tk', rfl, hi, rfl, hJ, hSt, hS⟩
  by_cases hlt : i < n
  · refine K.W.item i _ _ _ hlt hSt fun v h₁ tk₁ hP hSt₁ hk₁ => ?_
    obtain ⟨o₁, ho₁⟩ := K.hI _ _ hSt₁
    have S₁ := hS.turn (fun b ob hb e => hk₁ b ob (by simpa using hb) e) ho₁
    refine hlet i v h₁ tk₁ _ _ hP hSt₁ ?_
    refine wpAny_mono (turn i v l' mu' o₁ h₁ tk₁ hlt hP hJ S₁ (TurnG s h₀ L (J (i + 1)) [(I, o₁)] Q) r_turnG) (fun _ s₂ hs₂ => ?_) fun _ _ f => f.elim
    refine wpC_mono hs₂ (fun f s₃ hf => ?_) fun _ _ f => f.elim
    have step : (∃ l mu h tk, s₃ = St s h tk ∧ J (i + 1) l mu ∧ Sx h₀ L l (mu ++ [(I, o₁)]) h) → ∃ m, m < n - i ∧ ∃ i_1 l' mu' o h' tk', s₃ = St s h' tk' ∧ i_1 ≤ n ∧ m = n - i_1 ∧ J i_1 l' mu' ∧ StI i_1 h' ∧ Sx h₀ L l' ((I, o) :: mu') h' := by
      rintro ⟨l₂, mu₂, h₂, tk₂, rfl, hJ₂, S₂'⟩
      have S₂ := S₂'.perm perm1.symm
      refine ⟨n - (i + 1), by omega, i + 1, l₂, mu₂, o₁, h₂, tk₂, rfl, hlt, rfl, hJ₂, ?_, S₂⟩
      refine K.W.frame _ _ _ hSt₁ fun b hb ob e => ?_
      rcases List.mem_cons.mp hb with rfl | hb
      · rw [ho₁] at e; cases e
        exact S₂.get (.head _)
      · obtain ⟨ob', hob⟩ := hfp b hb
        have e1 := hob i l' mu' h₁ hJ (S₁.drop (List.sublist_cons_self _ _))
        have e2 := hob (i + 1) l₂ mu₂ h₂ hJ₂ (S₂.drop (List.sublist_cons_self _ _))
        rw [e] at e1; cases e1; exact e2
    cases f with
    | next => exact step hf
    | cont => exact step hf
    | brk => exact hf
    | ret v => exact hf
  · have hin : i = n := by omega
    subst hin
    refine K.W.done _ _ _ hSt fun h₁ tk₁ hk₁ => ?_
    exact done l' mu' h₁ tk₁ hJ (hS.off fun b ob hb e => hk₁ b ob (by simpa using hb) e)
end
/-- enter a def with cells, the stack clean -/
theorem enterKC {w : World} {A : Around} {s : Shared} {h : Heap} {tk : Nat} {mean : ExcName → Option Value} {mg mb : Str → Option Value} {k : Nat}
    {name qual : Str} {params : Arguments} {body : List Stmt} {scope : Scope} {dV kV doc pm cdv ct oc : Value} {an od : Option Addr} {osl : Array (Option Value)} {f : Addr} {args : List Value} 
    {Q E : Value → Shared → Prop} (binds : List (Str × Value)) (lb : List (Str × Value)) (cn : List Str) (cb : List (Option Value))
    (X : (hd.heap_39 w.params).In h) (T : TopM mean mg mb h) (R : Room (k + 1) A)
    (ho : (hd.heap_39 w.params).lookup f = some ⟨oc, od, .func (fnOf name qual params body scope dV kV doc pm an cdv ct), osl⟩) (hcd : codeIn (hd.heap_39 w.params) cdv qual = true)
    (hbind : bindArgs (fnOf name qual params body scope dV kV doc pm an cdv ct) ⟨args, []⟩ = pure binds)
    (hkind : ∀ L, ∀ x ∈ binds, scope.names.lookup x.1 = some .local ∨ (scope.names.lookup x.1 = some .cell ∧ ((cellsFrom (L + 1) scope.names []).lookup x.1).isSome = true))
    (hlb : ∀ L x v, lb.lookup x = some v → bindL (envOfC qual scope L f cdv).kindOf binds (fun _ => none) x = some v)
    (hcells : ∀ L, ∀ i x, cn[i]? = some x → ∃ c, (cellsFrom (L + 1) scope.names []).lookup x = some c ∧ c = L + 1 + i ∧ bindC (envOfC qual scope L f cdv).kindOf binds (fun _ => none) x = (cb[i]?).join)
    (hh : ∀ L h₁ tk₁ (ob : Nat → Obj), (∀ i, i < cn.length → (ob i).data = .cell (cb[i]?).join) → Sx h L lb ((List.range cn.length).map fun i => (L + 1 + i, ob i)) h₁ → Room k (A.deeper (envOfC qual scope L f cdv)) →
      wpC (model Pr w) (A.deeper (envOfC qual scope L f cdv)) (execs body (envOfC qual scope L f cdv))
        (RetQ Q) (fun _ _ => False) (St s h₁ tk₁))
    (hco : scope.isCoroutine = false) (hgen : scope.isGenerator = false) (hk : scope.kind = .function) : wpC (model Pr w) A (call (.ref f) args) Q E (St s h tk) := by
  refine wpC_call ?_
  have hroom : A.depth < recursionLimit := by have := R.dp; show A.depth < 1000; omega
  refine codeC_call_function (s := St s h tk) (fd := fnOf name qual params body scope dV kV doc pm an cdv ct) (body := body) hroom (X _ _ ho) rfl hco hgen rfl (codeRec_of X hcd) ?_
  rw [hbind]
  refine wpAny_pure (wpAny_newFunctionEnv_cells (s := St s h tk) hk (hkind _) fun env he s₁ I₁ => ?_)
  subst he
  obtain ⟨h₁, tk₁, rfl⟩ := I₁.toInCall.same
  refine ⟨T.nolimit.keeps I₁.toInCall.keep, codeC_func ?_⟩
  have hc : ∀ i, ∃ o : Obj, i < cn.length → h₁.get? (h.objs.size + 1 + i) = some o ∧ o.data = .cell (cb[i]?).join := by
    intro i
    by_cases hi : i < cn.length
    · obtain ⟨c, h1, h2, h3⟩ := hcells h.objs.size i cn[i] (by simp [hi])
      have I2 := I₁.cell _ c h1
      obtain ⟨o, ho, hd⟩ := I2
      exact ⟨o, fun _ => ⟨h2 ▸ ho, by rw [hd]; exact congrArg Data.cell h3⟩⟩
    · exact ⟨default, fun h => absurd h hi⟩
  refine wpC_mono (hh h.objs.size h₁ tk₁ (fun i => Classical.choose (hc i)) (fun i hi => (Classical.choose_spec (hc i) hi).2) ?_ R.deeper) (fun _ _ x => x) (fun _ _ x => x)
  refine ⟨⟨_, ⟨I₁.toInCall.ns, I₁.toInCall.keep, I₁.toInCall.fresh⟩, fun x v e => hlb _ x v e⟩, fun p hp => ?_, ?_⟩
  · obtain ⟨i, hi, rfl⟩ := List.mem_map.mp hp
    have hi' := List.mem_range.mp hi
    refine ⟨(Classical.choose_spec (hc i) hi').1, ?_, ?_⟩
    · show h.objs.size + 1 + i ≠ h.objs.size; omega
    · cases e : h.get? (h.objs.size + 1 + i) with
      | none => rfl
      | some o => exact absurd (Heap.lt_size e) (Nat.not_lt.mpr (Nat.le_trans (Nat.le_succ _) (Nat.le_add_right _ i)))
  · rw [List.map_map]
    exact List.pairwise_map.mpr (List.Pairwise.imp (fun hne e => hne (by simpa using e)) List.nodup_range)
end Mine
end
section
open PySem PySem.W PyProof.Rows
set_option maxRecDepth 100000
namespace Mine
local macro_rules | `(tactic| kspl_eval $x:ident) => `(tactic| with_reducible refine' $x ?_)
local macro_rules | `(tactic| kspl_open mmasm) => `(tactic| with_reducible assumption)
local macro_rules | `(tactic| kspl_open mmloc) => `(tactic| ((with_reducible refine' r_local ?S ?hv ?hL ?hk ?hl ?hd ?_); (case S => kspl_open mmasm); (case hL | hk | hl | hv | hd => exact rfl)))
local macro_rules | `(tactic| kspl_open mmlocn) => `(tactic| ((with_reducible refine' r_localn ?S ?hv ?hL ?hk ?hl ?_); (case S => kspl_open mmasm); (case hL | hk | hl | hv => exact rfl)))
local macro_rules | `(tactic| kspl_open mmglob) => `(tactic| ((with_reducible refine' r_glob ?S ?X ?T ?e ?hk ?hl ?hg ?hd ?_); (case S | X | T => kspl_open mmasm); (case hl => exact rfl); (case e => k_is); (case hk | hg | hd => exact rfl)))
local macro_rules | `(tactic| kspl_open mmglobB) => `(tactic| ((with_reducible refine' r_globB ?S ?X ?T ?e ?hv ?hn ?hk ?hl ?hg ?hb ?hd ?_); (case S | X | T => kspl_open mmasm); (case hl => exact rfl); (case e => k_is); (case hv => boot_by_name); (case hn => decide); (case hk | hg | hb | hd => exact rfl)))
local macro_rules | `(tactic| kspl_open mmmem) => `(tactic| repeat (first | (with_reducible exact List.mem_cons_self) | (with_reducible refine List.mem_cons_of_mem _ ?_)))
local macro_rules | `(tactic| kspl_open mmcellm) => `(tactic| ((with_reducible refine' r_cellM ?S ?hc ?hm ?hdd ?hk ?hl ?hd ?_); (case S => kspl_open mmasm); (case hl | hc => exact rfl); (case hm => kspl_open mmmem); (case hdd => kspl_open mmasm); (case hk | hd => exact rfl)))
local macro_rules | `(tactic| kspl_open mmcell) => `(tactic| ((with_reducible refine' r_cellB ?S ?ha ?hc ?hk ?hl ?hd ?_); (case S => kspl_open mmasm); (case hl | hc => exact rfl); (case ha => kspl_open mmasm); (case hk | hd => exact rfl)))
local macro_rules | `(tactic| kspl_open mmsto) => `(tactic| ((with_reducible refine' r_store ?S ?hL ?hk ?hl ?_); (case S => kspl_open mmasm); (case hL | hk | hl => exact rfl); intro h' tk' S'))
local macro_rules | `(tactic| kspl_open mmeval) => `(tactic| ((with_reducible show wpAny _ _ (eval _ _) _ _ _); first
  | kspl_open mmloc | kspl_open mmcell | kspl_open mmcellm | kspl_eval r_int | kspl_eval wpAny_BinOp
  | kspl_open mmglob | kspl_open mmglobB | kspl_eval r_str | kspl_eval r_bytes | kspl_eval r_bool | kspl_eval r_none
  | ((with_reducible refine' wpAny_Compare1 ?_ ?hm); (case hm => exact rfl)) | kspl_eval wpAny_UnaryOp | kspl_eval wpAny_IfExp
  | ((with_reducible refine' Call_ ?_ ?he); (case he => exact rfl)) | ((with_reducible refine' r_method ?_ ?he ?hx ?hp); (case he => exact rfl); (case hx => first | exact Or.inr ⟨_, _, rfl⟩ | exact Or.inl rfl); (case hp => exact rfl)) | kspl_eval Subscript_ | kspl_eval r_slcTo | kspl_eval r_slcFrom | kspl_eval Tuple_ | kspl_eval List_))
local macro_rules | `(tactic| kspl_open mmexec) => `(tactic| ((with_reducible show wpAny _ _ (exec _ _) _ _ _); first
  | ((with_reducible refine' wpAny_Assign_Name ?_ ?hs); (case hs => exact rfl)) | kspl_eval wpAny_If | kspl_eval wpAny_Return_some | kspl_eval wpAny_AugAssign_Name
  | ((with_reducible refine' wpAny_Expr ?_ ?hi ?hs); (case hi | hs => exact rfl))
  | ((with_reducible refine' Assign_Tuple ?_ ?hs ?hw); (case hs | hw => exact rfl)) | ((with_reducible refine' r_assign2 ?_ ?hs ?hw); (case hs | hw => exact rfl))))
local macro_rules | `(tactic| kspl_open mmisTrue) => `(tactic| ((with_reducible show wpAny _ _ (isTrue _ _ _) _ _ _); first
  | ((with_reducible refine' wpAny_isTrue_Compare1 ?_ ?hm); (case hm => exact rfl)) | ((with_reducible refine' isTrue_chain ?_ ?hm); (case hm => exact rfl)) | kspl_eval wpAny_isTrue_BoolOp | kspl_eval isTrue_not
  | ((with_reducible refine' isTrue_plain ?_ ?he); (case he => exact rfl))))
local macro_rules | `(tactic| kspl_open mmop) => `(tactic| first
  | kspl_eval o_add | kspl_eval o_sub | kspl_eval o_iadd
  | ((with_reducible refine' o_mul ?hm ?_); (case hm => mul_fits)) | ((with_reducible refine' o_mod ?hb ?_); (case hb => omega))
  | ((with_reducible refine' o_div ?hb ?hs ?_); (case hb | hs => omega)) | ((with_reducible refine' o_idiv ?hb ?hs ?_); (case hb | hs => omega))
  | kspl_eval o_neg
  | kspl_eval lt_int | kspl_eval gt_int | kspl_eval le_int | kspl_eval ge_int | kspl_eval eq_int | kspl_eval ne_int
  | kspl_eval wpAny_truthy_bool | kspl_eval truthy_int)
local macro_rules | `(tactic| kspl_open mmlit) => `(tactic| first | with_reducible exact lit38 | with_reducible exact lit60 | with_reducible exact lit62 | with_reducible exact lit34 | with_reducible exact lit13 | with_reducible exact lit10 | with_reducible exact lit9)
local macro_rules | `(tactic| kspl_open mmstr) => `(tactic| first
  | ((with_reducible refine' o_eq1 ?hy ?_); (case hy => kspl_open mmlit)) | kspl_eval o_eqS | kspl_eval o_neS | kspl_eval o_ord | kspl_eval r_methK | kspl_eval o_isNoneI | (kspl_eval o_isStrB; intro tk') | (kspl_eval o_isMvB; intro tk') | kspl_eval o_isBytesB | kspl_eval gm_rfind | kspl_eval gm_upper | kspl_eval gm_find | kspl_eval gm_join | kspl_eval r_slcStep | (kspl_eval o_rfind; intro t' tk') | kspl_eval o_neB)
local macro_rules | `(tactic| kspl_open mmnew) => `(tactic| first
  | ((with_reducible refine' r_range ?S ?_); (case S => kspl_open mmasm); intro a' t1' t2' t3' h' tk' S')
  | ((with_reducible refine' r_newTuple ?S ?hz ?_); (case S => kspl_open mmasm); (case hz => exact Nat.le_of_ble_eq_true rfl); intro a' h' S')
  | ((with_reducible refine' r_newList ?S ?hz ?_); (case S => kspl_open mmasm); (case hz => exact Nat.le_of_ble_eq_true rfl); intro a' h' S')
  | ((with_reducible refine' r_swpK ?hh ?S ?_); (case S => kspl_open mmasm); (case hh => exact Room.hh (by assumption)); intro h' S')
  | ((with_reducible refine' r_unpackH ?hh ?S ?_ ?hl); (case S => kspl_open mmasm); (case hh => exact Room.hh (by assumption)); (case hl => exact rfl); intro h' S')
  | ((with_reducible refine' o_inT2 ?S ?_); (case S => kspl_open mmasm)) | ((with_reducible refine' o_inT3 ?S ?_); (case S => kspl_open mmasm)))
local macro_rules | `(tactic| kspl_open mmbool) => `(tactic| first
  | kspl_eval wpAny_allTrue_And_cons | kspl_eval wpAny_allTrue_And_nil | kspl_eval wpAny_allTrue_Or_cons | kspl_eval wpAny_allTrue_Or_nil | kspl_eval test_link | kspl_eval test_lastE)
local macro_rules | `(tactic| kspl_open mmcond) => `(tactic| ((with_reducible show ite _ _ _); first
  | kspl_eval c_tt | kspl_eval c_ff
  | ((with_reducible refine' c_dec ?_ ?_) <;> intro hc <;> (try (exfalso; omega)))
  | ((with_reducible refine' c_eqI ?_ ?_) <;> intro hc <;> (try (exfalso; omega)))
  | ((with_reducible refine' c_neI ?_ ?_) <;> intro hc <;> (try (exfalso; omega)))))
local macro_rules | `(tactic| kspl_open mmcall) => `(tactic| first
  | ((with_reducible refine' callWith_K ?hX ?hk ?_ ?he ?hp); (case hX => kspl_open mmasm); (case hk => k_is); (case he | hp => exact rfl))
  | ((with_reducible refine' callWith_builtin1 ?_ ?he ?hp); (case he | hp => exact rfl))
  | ((with_reducible refine' callWith_type1 ?_ ?he ?hp); (case he | hp => exact rfl))
  | kspl_eval callWith_type0
  | ((with_reducible refine' spliced_more ?_ ?he); (case he => exact rfl)) | kspl_eval spliced_none
  | ((with_reducible refine' r_kin ?S ?X ?_); (case S | X => kspl_open mmasm)))
local macro_rules | `(tactic| kspl_open mm1) => `(tactic| first
  | kspl_open mmeval | kspl_eval r_cons | kspl_open mmexec | kspl_open mmsto | kspl_open mmlocn | kspl_open mmop | kspl_open mmisTrue | kspl_open mmcond | kspl_eval r_nil | kspl_eval r_fall | kspl_eval r_fallR | kspl_eval r_retQ | kspl_eval r_turnR | kspl_eval r_turnFR | kspl_eval r_retN | kspl_eval c_fall | kspl_eval c_fallR  | kspl_eval c_nil | kspl_open mmbool | kspl_open mmstr | kspl_open mmnew | kspl_open mmcall | kspl_eval wpAny_assign_Name | kspl_eval r_same)
local macro_rules | `(tactic| kspl_open mm) => `(tactic| repeat' (kspl_open mm1))
local macro_rules | `(tactic| kspl_open mmsub) => `(tactic| repeat' (first | exact List.forall_mem_nil _ | (refine List.forall_mem_cons.mpr ⟨rfl, ?_⟩)))
theorem fill_all : hd.heap_39 = hd.heap_39 ∧ PySem.Challenge.rw_nq0131_01.prog = PySem.Challenge.rw_nq0131_01.prog := by
  k_fill
  exact ⟨rfl, rfl⟩
def Tf (j bias : Int) : Int := if 36 * (j + 1) - bias < 1 then 1 else if 36 * (j + 1) - bias > 26 then 26 else 36 * (j + 1) - bias
set_option maxHeartbeats 8000000 in
theorem T_spec {w : World} {A : Around} {s : Shared} {h : Heap} {tk : Nat} {mean : ExcName → Option Value} {mg mb : Str → Option Value} {n : Nat} {j bias : Int} {tj tb : Tok} {Q E : Value → Shared → Prop}
   (X : (hd.heap_39 w.params).In h) (T : TopM mean mg mb h) (R : Room (n + 1) A)
   (k : ∀ t h' tk, Keeps h h' → Q (.int (Tf j bias) t) (St s h' tk)) :
   wpAny (model Pr w) A (call (.ref 21) [.int j tj, .int bias tb]) Q E (St s h tk) := by
  refine enter [("j", .int j tj), ("bias", .int bias tb)] X T R (by k_is) (by k_is) rfl (locs rfl) rfl ?_ rfl rfl rfl (by decide)
  intro L h₁ tk₁ S R'
  kspl_open mm
  all_goals refine q_int ?_ (k _ _ _ (Sx.keep (by assumption)))
  all_goals (unfold Tf; omega)
theorem fdiv_nat (a b : Nat) : ((a : Int).fdiv (b : Int)) = ((a / b : Nat) : Int) := by
  rw [Int.fdiv_eq_ediv_of_nonneg _ (by omega)]; exact (Int.natCast_ediv a b).symm
theorem fmod_nat (a b : Nat) : ((a : Int).fmod (b : Int)) = ((a % b : Nat) : Int) := by
  rw [Int.fmod_eq_emod_of_nonneg _ (by omega)]; exact (Int.natCast_emod a b).symm
theorem adS_t (d m : Nat) : (d : Int).fdiv 700 + ((d : Int).fdiv 700).fdiv (m : Int) = (adS d true m : Nat) := by
  rw [show (700 : Int) = ((700 : Nat) : Int) from rfl, fdiv_nat, fdiv_nat]; simp [adS]
theorem adS_f (d m : Nat) : (d : Int).fdiv 2 + ((d : Int).fdiv 2).fdiv (m : Int) = (adS d false m : Nat) := by
  rw [show (2 : Int) = ((2 : Nat) : Int) from rfl, fdiv_nat, fdiv_nat]; simp [adS]
theorem adL_lt (d : Nat) : (adL d).1 ≤ 455 := by
  induction d using Nat.strongRecOn with
  | ind d ih =>
    by_cases h : 455 < d
    · rw [adL_big h]; exact ih _ (by omega)
    · rw [adL_small h]; omega
set_option maxHeartbeats 8000000 in
theorem adapt_spec {w : World} {A : Around} {s : Shared} {h : Heap} {tk : Nat} {mean : ExcName → Option Value} {mg mb : Str → Option Value} {n : Nat} {d m : Nat} {first : Bool} {td tm : Tok} {Q E : Value → Shared → Prop}
   (X : (hd.heap_39 w.params).In h) (T : TopM mean mg mb h) (R : Room (n + 1) A) (hm : 0 < m) (hm2 : m < 1073741824) 
   (k : ∀ t h' tk, Keeps h h' → Q (.int (adF d first m : Nat) t) (St s h' tk)) :
   wpAny (model Pr w) A (call (.ref 35) [.int d td, .bool first, .int m tm]) Q E (St s h tk) := by
  refine enter [("delta", .int d td), ("first", .bool first), ("numchars", .int m tm)] X T R (by k_is) (by k_is) rfl (locs rfl) rfl ?_ rfl rfl rfl (by decide)
  intro L h₁ tk₁ S R'
  cases first <;> kspl_open mm
  all_goals rename_i S1
  all_goals (
    first | rw [adS_t] at S1 | rw [adS_f] at S1
    unfold adF at k
    generalize adS d _ m = D0 at S1 k
    refine r_while (fun n' s' => ∃ (D v : Nat) (t1 t2 : Tok) (h' : Heap) (tk' : Nat), s' = St s h' tk' ∧ D = n' ∧ Sx h L [("delta", .int D t1), ("divisions", .int v t2)] [] h' ∧ (adL D).1 = (adL D0).1 ∧ (adL D).2 + v = (adL D0).2) _ ⟨_, 0, _, _, _, _, rfl, rfl, S1.sub (by kspl_open mmsub), rfl, by omega⟩ ?_
    rintro n' s' ⟨D, v, t1, t2, h', tk', rfl, rfl, S2, e1, e2⟩ Q' hT hR
    kspl_open mm
    · rename_i hc S3
      simp only [show (35 : Int) = ((35 : Nat) : Int) from rfl, fdiv_nat] at S3
      have hc' : 455 < D := by omega
      have e3 := adL_big hc'
      rw [e3] at e1 e2
      refine hT (D / 35) _ (by omega) ⟨D / 35, v + 36, _, _, _, _, rfl, rfl, S3.sub (by kspl_open mmsub), e1, ?_⟩
      dsimp only at e2 ⊢; omega
    · rename_i hc S3
      have hc' : ¬ 455 < D := by omega
      rw [adL_small hc'] at e1 e2
      refine q_int ?_ (k _ _ _ S3.keep)
      rw [← e1, ← e2, show (36 * (D : Int)) = ((36 * D : Nat) : Int) by omega, show ((D : Int) + 38) = ((D + 38 : Nat) : Int) by omega, fdiv_nat]
      dsimp only; omega)
theorem Tf_nat (j b : Nat) : Tf j b = (Tn j b : Nat) := by unfold Tf Tn; omega
set_option maxHeartbeats 8000000 in
theorem ggi_spec {w : World} {A : Around} {s : Shared} {h : Heap} {tk : Nat} {mean : ExcName → Option Value} {mg mb : Str → Option Value} {n : Nat} {N b : Nat} {tN tb : Tok} {Q E : Value → Shared → Prop}
   (X : (hd.heap_39 w.params).In h) (T : TopM mean mg mb h) (R : Room (n + 2) A) (hN : N < 10 ^ 20)
   (k : ∀ t h' tk, Keeps h h' → Q (.bytes (octs (enc b 0 N)) t) (St s h' tk)) :
   wpC (model Pr w) A (call (.ref 28) [.int N tN, .int b tb]) Q E (St s h tk) := by
  refine enterC [("N", .int N tN), ("bias", .int b tb)] X T R (by k_is) (by k_is) rfl (locs rfl) rfl ?_ rfl rfl rfl (by decide)
  intro L h₁ tk₁ S R'
  refine c_cons (c_assign (c_type0 (T := "bytearray") ?_ rfl) rfl)
  kspl_open mm
  refine ba_make fun h2 hk2 hg2 => ?_
  have S2 := S.new1 hk2 hg2 (get_size h₁)
  generalize h₁.objs.size = r at S2
  kspl_open mm
  refine c_st ?_
  kspl_open mm
  rename_i S3
  refine c_cons (c_while (fun n' s' => ∃ (N' j : Nat) (pre : List Nat) (t1 t2 : Tok) (h' : Heap) (tk' : Nat), s' = St s h' tk' ∧ N' = n' ∧ Sx h L [("result", .ref r), ("j", .int j t1), ("N", .int N' t2), ("bias", .int b tb)] [(r, bobj (octs pre))] h' ∧ pre ++ enc b j N' = enc b 0 N) N ⟨N, 0, [], _, _, _, _, rfl, rfl, S3.sub (by kspl_open mmsub), rfl⟩ ?_)
  rintro n' s' ⟨N', j, pre, t1, t2, h', tk', rfl, rfl, S4, hpre⟩ Q' hT hR
  kspl_open mm
  refine c_st ?_
  kspl_open mm
  refine T_spec (X.keeps S4.keep) (Top.keeps T S4.keep) R' ?_
  intro t3 h3 tk3 hk3
  have S5 := S4.grow hk3
  rw [Tf_nat]
  kspl_open mm
  rename_i S6
  refine c_cons (c_if (wpC_any ?_))
  kspl_open mm
  · rename_i hc
    refine c_cons (c_expr (c_method (ov := .ref r) (id := "bytearray.append") ?_ rfl ⟨_, _, rfl⟩ rfl) rfl rfl)
    kspl_open mm
    refine gm_append (S6.get (.head _)) ⟨rfl, ?_⟩
    kspl_open mm
    have hN' : N' < 36 := by have := Tn_hi j b; omega
    have hlen := enc_len 20 N b 0 hN
    rw [← hpre, List.length_append] at hlen
    refine r_bidx (x := digL) (by decide) (by omega) (by show _ < (36 : Int); omega) (digI rfl hN') ?_ rfl (fun _ => rfl)
    intro t4 tk4
    kspl_open mm
    refine c_append S6 (dig_lt hN') (by rw [octs_size, sizeLine_eq]; omega) ?_
    intro h7 S7
    refine ⟨rfl, ?_⟩
    kspl_open mm
    refine c_st ?_
    kspl_open mm
    have hN2 : N' < Tn j b := by omega
    rw [octs_push, ← enc_small hN2, hpre] at S7
    refine r_bytesBa S7 (.head _) (by rw [octs_size, sizeLine_eq, ← hpre, List.length_append]; omega) ?_
    intro t8 tk8
    kspl_open mm
    refine hR _ _ ?_
    kspl_open mm
    exact k _ _ _ S7.keep
  · rename_i hc
    have hN2 : ¬ N' < Tn j b := by omega
    have hlo := Tn_lo j b
    have hhi := Tn_hi j b
    have hmod := Nat.mod_lt (N' - Tn j b) (show 0 < 36 - Tn j b by omega)
    have hlen := enc_len 20 N b 0 hN
    rw [← hpre, List.length_append] at hlen
    have e1 : (↑N' - ↑(Tn j b) : Int) = ((N' - Tn j b : Nat) : Int) := by omega
    have e2 : (36 - ↑(Tn j b) : Int) = ((36 - Tn j b : Nat) : Int) := by omega
    refine c_cons (c_expr (c_method (ov := .ref r) (id := "bytearray.append") ?_ rfl ⟨_, _, rfl⟩ rfl) rfl rfl)
    kspl_open mm
    refine gm_append (S6.get (.head _)) ⟨rfl, ?_⟩
    kspl_open mm
    rw [e1, e2, fmod_nat]
    refine r_bidx (x := digL) (by decide) (by omega) (by show _ < (36 : Int); omega) (digI (d := Tn j b + (N' - Tn j b) % (36 - Tn j b)) (by omega) (by omega)) ?_ rfl (fun _ => rfl)
    intro t4 tk4
    kspl_open mm
    refine c_append S6 (dig_lt (by omega)) (by rw [octs_size, sizeLine_eq]; omega) ?_
    intro h7 S7
    refine ⟨rfl, ?_⟩
    kspl_open mm
    rw [octs_push] at S7
    refine c_st ?_
    kspl_open mm
    refine c_st ?_
    kspl_open mm
    rename_i S8
    rw [e1, e2, fdiv_nat] at S8
    refine hT _ _ (enc_dec hN2) ⟨(N' - Tn j b) / (36 - Tn j b), j + 1, _, _, _, _, _, rfl, rfl, S8.sub (by kspl_open mmsub), ?_⟩
    rw [List.append_assoc, ← hpre, enc_big hN2]; rfl
def natL (gs : List Nat) : List Int := gs.map fun g => ((g : Nat) : Int)
theorem natL_at {gs : List Nat} {vs : List Value} (hi : IntsAre vs (natL gs)) {i : Nat} {v : Value} (hv : vs[i]? = some v) : ∃ g t, v = .int ((g : Nat) : Int) t ∧ gs[i]? = some g := by
  obtain ⟨n, t, rfl, hn⟩ := IntsAre.at hi i v hv
  unfold natL at hn
  rw [List.getElem?_map] at hn
  obtain ⟨g, hg, rfl⟩ := Option.map_eq_some_iff.mp hn
  exact ⟨g, t, rfl, hg⟩
theorem natL_length {gs : List Nat} {vs : List Value} (hi : IntsAre vs (natL gs)) : vs.length = gs.length := by rw [hi.length, natL, List.length_map]
theorem encAll_len (base : Nat) : ∀ (gs : List Nat) (p b : Nat), (∀ g ∈ gs, g < 10 ^ 20) → (encAll base p b gs).length ≤ 21 * gs.length
  | [], _, _, _ => by simp [encAll]
  | g :: r, p, b, h => by
    have h1 := enc_len 20 g b 0 (h g (.head _))
    have h2 := encAll_len base r (p + 1) (adF g (p == 0) (base + p + 1)) (fun x hx => h x (.tail _ hx))
    simp only [encAll, List.length_append, List.length_cons]
    omega
theorem points0 (i : Nat) : (((i : Nat) : Int) == 0) = (i == 0) := by
  cases i with
  | zero => rfl
  | succ n => simp; omega
set_option maxHeartbeats 8000000 in
theorem genints_spec {w : World} {A : Around} {s : Shared} {h : Heap} {tk : Nat} {mean : ExcName → Option Value} {mg mb : Str → Option Value} {n : Nat} {base : Nat} {tb : Tok} {a : Addr} {vs : List Value} {ep : Nat} {gs : List Nat} {Q E : Value → Shared → Prop}
   (X : (hd.heap_39 w.params).In h) (T : TopM mean mg mb h) (R : Room (n + 3) A) (ha : h.get? a = some (lobj vs ep)) (hi : IntsAre vs (natL gs)) (hg : ∀ g ∈ gs, g < 10 ^ 20) (hlen : gs.length ≤ 1000) (hbase : base ≤ 1000000)
   (k : ∀ t h' tk, Keeps h h' → Q (.bytes (octs (encAll base 0 72 gs)) t) (St s h' tk)) :
   wpC (model Pr w) A (call (.ref 42) [.int base tb, .ref a]) Q E (St s h tk) := by
  refine enterC [("baselen", .int base tb), ("deltas", .ref a)] X T R (by k_is) (by k_is) rfl (locs rfl) rfl ?_ rfl rfl rfl (by decide)
  intro L h₁ tk₁ S R'
  refine c_cons (c_assign (c_type0 (T := "bytearray") ?_ rfl) rfl)
  kspl_open mm
  refine ba_make fun h2 hk2 hg2 => ?_
  have S2 := S.new1 hk2 hg2 (get_size h₁)
  generalize h₁.objs.size = r at S2
  kspl_open mm
  refine c_st ?_
  kspl_open mm
  rename_i S3
  have hall := encAll_len base gs 0 72 hg
  refine c_cons (c_for ?_ (fun _ => rfl))
  kspl_open mm
  refine r_enum (S3.sub (l' := ([("result", .ref r), ("bias", .int (72 : Nat) _), ("baselen", .int base tb), ("deltas", .ref a)] : List (Str × Value))) (by kspl_open mmsub)) (S3.keep _ _ ha) ?_
  intro e it oi h4 S4 hit4
  refine r_iterEnum (S4.get (.head _)) ?_
  refine c_forEnum R'.hh S4 hit4 ha rfl rfl rfl rfl rfl (fun i l mu => ∃ (bi : Nat) (pre : List Nat) (t : Tok), l = ([("result", .ref r), ("bias", .int bi t), ("baselen", .int base tb), ("deltas", .ref a)] : List (Str × Value)) ∧ mu = [(r, bobj (octs pre))] ∧ pre ++ encAll base i bi (gs.drop i) = encAll base 0 72 gs)
    ⟨72, [], _, rfl, rfl, rfl⟩ ?_ ?_
  · rintro i v t l' mu' its h5 tk5 hv ⟨bi, pre, t5, rfl, rfl, hpre⟩ S5 Q' hT
    obtain ⟨g, tg, rfl, hgi⟩ := natL_at hi hv
    have hdrop : gs.drop i = g :: gs.drop (i + 1) := by
      obtain ⟨hlt, hge⟩ := List.getElem?_eq_some_iff.mp hgi
      rw [← hge]; exact List.drop_eq_getElem_cons hlt
    have hil : i < gs.length := (List.getElem?_eq_some_iff.mp hgi).1
    rw [hdrop, encAll] at hpre
    refine c_cons (c_assign (c_callK (f := 28) (K := hd.heap_39 w.params) (by k_is) ?_ rfl ⟨_, _, rfl⟩ rfl) rfl)
    kspl_open mm
    refine ggi_spec (X.keeps S5.keep) (Top.keeps T S5.keep) R' (hg g (by rw [List.mem_iff_getElem?]; exact ⟨i, hgi⟩)) ?_
    intro t6 h6 tk6 hk6
    have S6 := S5.grow hk6
    kspl_open mm
    rename_i S7
    refine c_cons (c_expr (c_method (ov := .ref r) (id := "bytearray.extend") ?_ rfl ⟨_, _, rfl⟩ rfl) rfl rfl)
    kspl_open mm
    refine gm_extend (S7.get (.head _)) ⟨rfl, ?_⟩
    kspl_open mm
    have hl2 := congrArg List.length hpre
    simp only [List.length_append] at hl2
    refine c_extend S7 (by rw [octs_size, octs_size, sizeLine_eq]; omega) ?_
    intro h8 S8
    refine ⟨rfl, ?_⟩
    kspl_open mm
    rw [octs_append] at S8
    refine c_st ?_
    kspl_open mm
    rw [points0, show ((base : Int) + (i : Int) + 1) = ((base + i + 1 : Nat) : Int) by omega]
    refine adapt_spec (n := 0) (X.keeps S8.keep) (Top.keeps T S8.keep) (R'.mono (by omega)) (by omega) (by omega) ?_
    intro t9 h9 tk9 hk9
    have S9 := S8.grow hk9
    kspl_open mm
    rename_i S10
    refine hT (S10.sub (by kspl_open mmsub)) ⟨_, _, _, rfl, rfl, ?_⟩
    rw [List.append_assoc]; exact hpre
  · rintro l' mu' h5 tk5 ⟨bi, pre, t5, rfl, rfl, hpre⟩ S5
    kspl_open mm
    refine c_st ?_
    kspl_open mm
    rw [natL_length hi, List.drop_length, encAll, List.append_nil] at hpre
    subst hpre
    refine r_bytesBa S5 (.head _) (by rw [octs_size, sizeLine_eq]; omega) ?_
    intro t8 tk8
    kspl_open mm
    exact k _ _ _ S5.keep
def nick : List Nat := [38, 60, 62, 34, 59, 9, 10, 13]
theorem lit_nick : Str.ofString "&<>\";\t\n\x0d" = ⟨#[38, 60, 62, 34, 59, 9, 10, 13]⟩ := by decide +kernel
/-- the code of a sign -/
def signC (x : Int) : Nat :=
  if x % 4 = 0 then nick.getD (x / 4 % 8).toNat 0
  else if x % 4 = 1 then (x / 4 % 128).toNat
  else if x % 4 = 2 then 128 + (x / 4 % 6).toNat
  else if 128 + (x / 4 % 1111936).toNat < 55296 then 128 + (x / 4 % 1111936).toNat else 128 + (x / 4 % 1111936).toNat + 2048
theorem fdivE (a : Int) {b : Int} (hb : 0 ≤ b) : a.fdiv b = a / b := Int.fdiv_eq_ediv_of_nonneg _ hb
theorem fmodE (a : Int) {b : Int} (hb : 0 ≤ b) : a.fmod b = a % b := Int.fmod_eq_emod_of_nonneg _ hb
theorem q_str {a b : Nat} {t : Tok} {s : Shared} {Q : Value → Shared → Prop} (e : a = b) (k : Q (.str ⟨#[a]⟩ t) s) : Q (.str ⟨#[b]⟩ t) s := e ▸ k
theorem nick_get (n : Nat) (h : n < 8) : (#[38, 60, 62, 34, 59, 9, 10, 13] : Array Nat)[n]? = some (nick.getD n 0) := by
  have : ∀ n, n < 8 → (#[38, 60, 62, 34, 59, 9, 10, 13] : Array Nat)[n]? = some (nick.getD n 0) := by decide
  exact this n h
set_option maxHeartbeats 8000000 in
theorem sign_spec {w : World} {A : Around} {s : Shared} {h : Heap} {tk : Nat} {mean : ExcName → Option Value} {mg mb : Str → Option Value} {n : Nat} {x : Int} {tx : Tok} {Q E : Value → Shared → Prop}
   (X : (hd.heap_39 w.params).In h) (T : TopM mean mg mb h) (R : Room (n + 1) A)
   (k : ∀ t h' tk, Keeps h h' → Q (.str ⟨#[signC x]⟩ t) (St s h' tk)) :
   wpAny (model Pr w) A (call (.ref 112) [.int x tx]) Q E (St s h tk) := by
  refine enter [("number", .int x tx)] X T R (by k_is) (by k_is) rfl (locs rfl) rfl ?_ rfl rfl rfl (by decide)
  intro L h₁ tk₁ S R'
  kspl_open mm
  all_goals simp only [fdivE _ (show (0 : Int) ≤ 4 by decide), fmodE _ (show (0 : Int) ≤ 4 by decide), fmodE _ (show (0 : Int) ≤ 8 by decide), fmodE _ (show (0 : Int) ≤ 128 by decide), fmodE _ (show (0 : Int) ≤ 6 by decide), fmodE _ (show (0 : Int) ≤ 1111936 by decide)] at *
  · rename_i S1 hc
    rw [lit_nick]
    refine o_itemS (n := (x / 4 % 8).toNat) (c := signC x) (by omega) (by show _ < 8; omega) ?_ (by omega) ?_ (fun _ => rfl) (fun _ => rfl)
    · rw [nick_get _ (by omega), signC, if_pos hc]
    · intro t2 tk2
      kspl_open mm
      exact k _ _ _ S1.keep
  · rename_i S1 h0 h1
    refine o_chr (c := signC x) ?_ ?_ ?_
    · rw [signC, if_neg h0, if_pos h1]; omega
    · rw [signC, if_neg h0, if_pos h1]; omega
    · intro t2 tk2
      kspl_open mm
      exact k _ _ _ S1.keep
  · rename_i S1 h0 h1 h2
    refine o_chr (c := signC x) ?_ ?_ ?_
    · rw [signC, if_neg h0, if_neg h1, if_pos h2]; omega
    · rw [signC, if_neg h0, if_neg h1, if_pos h2]; omega
    · intro t2 tk2
      kspl_open mm
      exact k _ _ _ S1.keep
  · rename_i S0 h0 h1 h2 S1 h3
    refine o_chr (c := signC x) ?_ ?_ ?_
    · rw [signC, if_neg h0, if_neg h1, if_neg h2, if_pos (by omega)]; omega
    · rw [signC, if_neg h0, if_neg h1, if_neg h2, if_pos (by omega)]; omega
    · intro t2 tk2
      kspl_open mm
      exact k _ _ _ S1.keep
  · rename_i S0 h0 h1 h2 S1 h3
    refine o_chr (c := signC x) ?_ ?_ ?_
    · rw [signC, if_neg h0, if_neg h1, if_neg h2, if_neg (by omega)]; omega
    · rw [signC, if_neg h0, if_neg h1, if_neg h2, if_neg (by omega)]; omega
    · intro t2 tk2
      kspl_open mm
      exact k _ _ _ S1.keep
theorem rep_len2 (c : Nat) (z : List Nat) (hz : 1 ≤ z.length) : ∀ l : List Nat, (rep c z l).length ≤ z.length * l.length
  | [] => Nat.zero_le _
  | d :: r => by
    have ih := rep_len2 c z hz r
    show ((if d = c then z else [d]) ++ rep c z r).length ≤ _
    rw [List.length_append, List.length_cons, Nat.mul_add]
    split
    · omega
    · simp only [List.length_cons, List.length_nil]; omega
theorem rep_le {c : Nat} {z l : List Nat} {n m : Nat} (h : l.length ≤ n) (hz : 1 ≤ z.length) (hm : z.length * n ≤ m) : (rep c z l).length ≤ m :=
  Nat.le_trans (rep_len2 c z hz l) (Nat.le_trans (Nat.mul_le_mul_left _ h) hm)
def esc_cdata (x : List Nat) : List Nat := rep 62 [38, 103, 116, 59] (rep 60 [38, 108, 116, 59] (rep 38 [38, 97, 109, 112, 59] (x)))
set_option maxHeartbeats 8000000 in
theorem cdata_spec {w : World} {A : Around} {s : Shared} {h : Heap} {tk : Nat} {mean : ExcName → Option Value} {mg mb : Str → Option Value} {n : Nat} {x : List Nat} {tx : Tok} {Q E : Value → Shared → Prop}
   (X : (hd.heap_39 w.params).In h) (T : TopM mean mg mb h) (R : Room (n + 1) A) (hx : x.length ≤ 80)
   (k : ∀ t h' tk, Keeps h h' → Q (.str ⟨(esc_cdata x).toArray⟩ t) (St s h' tk)) :
   wpAny (model Pr w) A (call (.ref 77) [.str ⟨x.toArray⟩ tx]) Q E (St s h tk) := by
  refine enter [("text", .str ⟨x.toArray⟩ tx)] X T R (by k_is) (by k_is) rfl (locs rfl) rfl ?_ rfl rfl rfl (by decide)
  intro L h₁ tk₁ S R'
  kspl_open mm
  refine r_try ?_
  have hb0 : x.length ≤ 80 := hx
  refine r_cons (esc_step (c := 38) (zl := [38, 97, 109, 112, 59]) S (by decide +kernel) (by decide +kernel) (by decide +kernel) (by decide) (by omega) rfl rfl rfl rfl rfl rfl ?_)
  intro t0 h0 tk0 S0
  have hb1 := rep_le (c := 38) (z := [38, 97, 109, 112, 59]) (m := 400) hb0 (by decide) (by decide)
  refine r_fall (r_cons (esc_step (c := 60) (zl := [38, 108, 116, 59]) S0 (by decide +kernel) (by decide +kernel) (by decide +kernel) (by decide) (by omega) rfl rfl rfl rfl rfl rfl ?_))
  intro t1 h1 tk1 S1
  have hb2 := rep_le (c := 60) (z := [38, 108, 116, 59]) (m := 1600) hb1 (by decide) (by decide)
  refine r_fall (r_cons (esc_step (c := 62) (zl := [38, 103, 116, 59]) S1 (by decide +kernel) (by decide +kernel) (by decide +kernel) (by decide) (by omega) rfl rfl rfl rfl rfl rfl ?_))
  intro t2 h2 tk2 S2
  have hb3 := rep_le (c := 62) (z := [38, 103, 116, 59]) (m := 6400) hb2 (by decide) (by decide)
  refine r_fall ?_
  kspl_open mm
  exact k _ _ _ S2.keep
def esc_attrib (x : List Nat) : List Nat := rep 9 [38, 35, 48, 57, 59] (rep 10 [38, 35, 49, 48, 59] (rep 13 [38, 35, 49, 51, 59] (rep 34 [38, 113, 117, 111, 116, 59] (rep 62 [38, 103, 116, 59] (rep 60 [38, 108, 116, 59] (rep 38 [38, 97, 109, 112, 59] (x)))))))
set_option maxHeartbeats 8000000 in
theorem attrib_spec {w : World} {A : Around} {s : Shared} {h : Heap} {tk : Nat} {mean : ExcName → Option Value} {mg mb : Str → Option Value} {n : Nat} {x : List Nat} {tx : Tok} {Q E : Value → Shared → Prop}
   (X : (hd.heap_39 w.params).In h) (T : TopM mean mg mb h) (R : Room (n + 1) A) (hx : x.length ≤ 80)
   (k : ∀ t h' tk, Keeps h h' → Q (.str ⟨(esc_attrib x).toArray⟩ t) (St s h' tk)) :
   wpAny (model Pr w) A (call (.ref 84) [.str ⟨x.toArray⟩ tx]) Q E (St s h tk) := by
  refine enter [("text", .str ⟨x.toArray⟩ tx)] X T R (by k_is) (by k_is) rfl (locs rfl) rfl ?_ rfl rfl rfl (by decide)
  intro L h₁ tk₁ S R'
  kspl_open mm
  refine r_try ?_
  have hb0 : x.length ≤ 80 := hx
  refine r_cons (esc_step (c := 38) (zl := [38, 97, 109, 112, 59]) S (by decide +kernel) (by decide +kernel) (by decide +kernel) (by decide) (by omega) rfl rfl rfl rfl rfl rfl ?_)
  intro t0 h0 tk0 S0
  have hb1 := rep_le (c := 38) (z := [38, 97, 109, 112, 59]) (m := 400) hb0 (by decide) (by decide)
  refine r_fall (r_cons (esc_step (c := 60) (zl := [38, 108, 116, 59]) S0 (by decide +kernel) (by decide +kernel) (by decide +kernel) (by decide) (by omega) rfl rfl rfl rfl rfl rfl ?_))
  intro t1 h1 tk1 S1
  have hb2 := rep_le (c := 60) (z := [38, 108, 116, 59]) (m := 1600) hb1 (by decide) (by decide)
  refine r_fall (r_cons (esc_step (c := 62) (zl := [38, 103, 116, 59]) S1 (by decide +kernel) (by decide +kernel) (by decide +kernel) (by decide) (by omega) rfl rfl rfl rfl rfl rfl ?_))
  intro t2 h2 tk2 S2
  have hb3 := rep_le (c := 62) (z := [38, 103, 116, 59]) (m := 6400) hb2 (by decide) (by decide)
  refine r_fall (r_cons (esc_step (c := 34) (zl := [38, 113, 117, 111, 116, 59]) S2 (by decide +kernel) (by decide +kernel) (by decide +kernel) (by decide) (by omega) rfl rfl rfl rfl rfl rfl ?_))
  intro t3 h3 tk3 S3
  have hb4 := rep_le (c := 34) (z := [38, 113, 117, 111, 116, 59]) (m := 38400) hb3 (by decide) (by decide)
  refine r_fall (r_cons (esc_step (c := 13) (zl := [38, 35, 49, 51, 59]) S3 (by decide +kernel) (by decide +kernel) (by decide +kernel) (by decide) (by omega) rfl rfl rfl rfl rfl rfl ?_))
  intro t4 h4 tk4 S4
  have hb5 := rep_le (c := 13) (z := [38, 35, 49, 51, 59]) (m := 192000) hb4 (by decide) (by decide)
  refine r_fall (r_cons (esc_step (c := 10) (zl := [38, 35, 49, 48, 59]) S4 (by decide +kernel) (by decide +kernel) (by decide +kernel) (by decide) (by omega) rfl rfl rfl rfl rfl rfl ?_))
  intro t5 h5 tk5 S5
  have hb6 := rep_le (c := 10) (z := [38, 35, 49, 48, 59]) (m := 960000) hb5 (by decide) (by decide)
  refine r_fall (r_cons (esc_step (c := 9) (zl := [38, 35, 48, 57, 59]) S5 (by decide +kernel) (by decide +kernel) (by decide +kernel) (by decide) (by omega) rfl rfl rfl rfl rfl rfl ?_))
  intro t6 h6 tk6 S6
  have hb7 := rep_le (c := 9) (z := [38, 35, 48, 57, 59]) (m := 4800000) hb6 (by decide) (by decide)
  refine r_fall ?_
  kspl_open mm
  exact k _ _ _ S6.keep
def esc_html (x : List Nat) : List Nat := rep 34 [38, 113, 117, 111, 116, 59] (rep 62 [38, 103, 116, 59] (rep 38 [38, 97, 109, 112, 59] (x)))
set_option maxHeartbeats 8000000 in
theorem html_spec {w : World} {A : Around} {s : Shared} {h : Heap} {tk : Nat} {mean : ExcName → Option Value} {mg mb : Str → Option Value} {n : Nat} {x : List Nat} {tx : Tok} {Q E : Value → Shared → Prop}
   (X : (hd.heap_39 w.params).In h) (T : TopM mean mg mb h) (R : Room (n + 1) A) (hx : x.length ≤ 80)
   (k : ∀ t h' tk, Keeps h h' → Q (.str ⟨(esc_html x).toArray⟩ t) (St s h' tk)) :
   wpAny (model Pr w) A (call (.ref 91) [.str ⟨x.toArray⟩ tx]) Q E (St s h tk) := by
  refine enter [("text", .str ⟨x.toArray⟩ tx)] X T R (by k_is) (by k_is) rfl (locs rfl) rfl ?_ rfl rfl rfl (by decide)
  intro L h₁ tk₁ S R'
  kspl_open mm
  refine r_try ?_
  have hb0 : x.length ≤ 80 := hx
  refine r_cons (esc_step (c := 38) (zl := [38, 97, 109, 112, 59]) S (by decide +kernel) (by decide +kernel) (by decide +kernel) (by decide) (by omega) rfl rfl rfl rfl rfl rfl ?_)
  intro t0 h0 tk0 S0
  have hb1 := rep_le (c := 38) (z := [38, 97, 109, 112, 59]) (m := 400) hb0 (by decide) (by decide)
  refine r_fall (r_cons (esc_step (c := 62) (zl := [38, 103, 116, 59]) S0 (by decide +kernel) (by decide +kernel) (by decide +kernel) (by decide) (by omega) rfl rfl rfl rfl rfl rfl ?_))
  intro t1 h1 tk1 S1
  have hb2 := rep_le (c := 62) (z := [38, 103, 116, 59]) (m := 1600) hb1 (by decide) (by decide)
  refine r_fall (r_cons (esc_step (c := 34) (zl := [38, 113, 117, 111, 116, 59]) S1 (by decide +kernel) (by decide +kernel) (by decide +kernel) (by decide) (by omega) rfl rfl rfl rfl rfl rfl ?_))
  intro t2 h2 tk2 S2
  have hb3 := rep_le (c := 34) (z := [38, 113, 117, 111, 116, 59]) (m := 9600) hb2 (by decide) (by decide)
  refine r_fall ?_
  kspl_open mm
  exact k _ _ _ S2.keep
def esc_c14n (x : List Nat) : List Nat := rep 13 [38, 35, 120, 68, 59] (rep 62 [38, 103, 116, 59] (rep 60 [38, 108, 116, 59] (rep 38 [38, 97, 109, 112, 59] (x))))
set_option maxHeartbeats 8000000 in
theorem c14n_spec {w : World} {A : Around} {s : Shared} {h : Heap} {tk : Nat} {mean : ExcName → Option Value} {mg mb : Str → Option Value} {n : Nat} {x : List Nat} {tx : Tok} {Q E : Value → Shared → Prop}
   (X : (hd.heap_39 w.params).In h) (T : TopM mean mg mb h) (R : Room (n + 1) A) (hx : x.length ≤ 80)
   (k : ∀ t h' tk, Keeps h h' → Q (.str ⟨(esc_c14n x).toArray⟩ t) (St s h' tk)) :
   wpAny (model Pr w) A (call (.ref 98) [.str ⟨x.toArray⟩ tx]) Q E (St s h tk) := by
  refine enter [("text", .str ⟨x.toArray⟩ tx)] X T R (by k_is) (by k_is) rfl (locs rfl) rfl ?_ rfl rfl rfl (by decide)
  intro L h₁ tk₁ S R'
  kspl_open mm
  refine r_try ?_
  have hb0 : x.length ≤ 80 := hx
  refine r_cons (esc_step (c := 38) (zl := [38, 97, 109, 112, 59]) S (by decide +kernel) (by decide +kernel) (by decide +kernel) (by decide) (by omega) rfl rfl rfl rfl rfl rfl ?_)
  intro t0 h0 tk0 S0
  have hb1 := rep_le (c := 38) (z := [38, 97, 109, 112, 59]) (m := 400) hb0 (by decide) (by decide)
  refine r_fall (r_cons (esc_step (c := 60) (zl := [38, 108, 116, 59]) S0 (by decide +kernel) (by decide +kernel) (by decide +kernel) (by decide) (by omega) rfl rfl rfl rfl rfl rfl ?_))
  intro t1 h1 tk1 S1
  have hb2 := rep_le (c := 60) (z := [38, 108, 116, 59]) (m := 1600) hb1 (by decide) (by decide)
  refine r_fall (r_cons (esc_step (c := 62) (zl := [38, 103, 116, 59]) S1 (by decide +kernel) (by decide +kernel) (by decide +kernel) (by decide) (by omega) rfl rfl rfl rfl rfl rfl ?_))
  intro t2 h2 tk2 S2
  have hb3 := rep_le (c := 62) (z := [38, 103, 116, 59]) (m := 6400) hb2 (by decide) (by decide)
  refine r_fall (r_cons (esc_step (c := 13) (zl := [38, 35, 120, 68, 59]) S2 (by decide +kernel) (by decide +kernel) (by decide +kernel) (by decide) (by omega) rfl rfl rfl rfl rfl rfl ?_))
  intro t3 h3 tk3 S3
  have hb4 := rep_le (c := 13) (z := [38, 35, 120, 68, 59]) (m := 32000) hb3 (by decide) (by decide)
  refine r_fall ?_
  kspl_open mm
  exact k _ _ _ S3.keep
def esc_attrc14n (x : List Nat) : List Nat := rep 13 [38, 35, 120, 68, 59] (rep 10 [38, 35, 120, 65, 59] (rep 9 [38, 35, 120, 57, 59] (rep 34 [38, 113, 117, 111, 116, 59] (rep 60 [38, 108, 116, 59] (rep 38 [38, 97, 109, 112, 59] (x))))))
set_option maxHeartbeats 8000000 in
theorem attrc14n_spec {w : World} {A : Around} {s : Shared} {h : Heap} {tk : Nat} {mean : ExcName → Option Value} {mg mb : Str → Option Value} {n : Nat} {x : List Nat} {tx : Tok} {Q E : Value → Shared → Prop}
   (X : (hd.heap_39 w.params).In h) (T : TopM mean mg mb h) (R : Room (n + 1) A) (hx : x.length ≤ 80)
   (k : ∀ t h' tk, Keeps h h' → Q (.str ⟨(esc_attrc14n x).toArray⟩ t) (St s h' tk)) :
   wpAny (model Pr w) A (call (.ref 105) [.str ⟨x.toArray⟩ tx]) Q E (St s h tk) := by
  refine enter [("text", .str ⟨x.toArray⟩ tx)] X T R (by k_is) (by k_is) rfl (locs rfl) rfl ?_ rfl rfl rfl (by decide)
  intro L h₁ tk₁ S R'
  kspl_open mm
  refine r_try ?_
  have hb0 : x.length ≤ 80 := hx
  refine r_cons (esc_step (c := 38) (zl := [38, 97, 109, 112, 59]) S (by decide +kernel) (by decide +kernel) (by decide +kernel) (by decide) (by omega) rfl rfl rfl rfl rfl rfl ?_)
  intro t0 h0 tk0 S0
  have hb1 := rep_le (c := 38) (z := [38, 97, 109, 112, 59]) (m := 400) hb0 (by decide) (by decide)
  refine r_fall (r_cons (esc_step (c := 60) (zl := [38, 108, 116, 59]) S0 (by decide +kernel) (by decide +kernel) (by decide +kernel) (by decide) (by omega) rfl rfl rfl rfl rfl rfl ?_))
  intro t1 h1 tk1 S1
  have hb2 := rep_le (c := 60) (z := [38, 108, 116, 59]) (m := 1600) hb1 (by decide) (by decide)
  refine r_fall (r_cons (esc_step (c := 34) (zl := [38, 113, 117, 111, 116, 59]) S1 (by decide +kernel) (by decide +kernel) (by decide +kernel) (by decide) (by omega) rfl rfl rfl rfl rfl rfl ?_))
  intro t2 h2 tk2 S2
  have hb3 := rep_le (c := 34) (z := [38, 113, 117, 111, 116, 59]) (m := 9600) hb2 (by decide) (by decide)
  refine r_fall (r_cons (esc_step (c := 9) (zl := [38, 35, 120, 57, 59]) S2 (by decide +kernel) (by decide +kernel) (by decide +kernel) (by decide) (by omega) rfl rfl rfl rfl rfl rfl ?_))
  intro t3 h3 tk3 S3
  have hb4 := rep_le (c := 9) (z := [38, 35, 120, 57, 59]) (m := 48000) hb3 (by decide) (by decide)
  refine r_fall (r_cons (esc_step (c := 10) (zl := [38, 35, 120, 65, 59]) S3 (by decide +kernel) (by decide +kernel) (by decide +kernel) (by decide) (by omega) rfl rfl rfl rfl rfl rfl ?_))
  intro t4 h4 tk4 S4
  have hb5 := rep_le (c := 10) (z := [38, 35, 120, 65, 59]) (m := 240000) hb4 (by decide) (by decide)
  refine r_fall (r_cons (esc_step (c := 13) (zl := [38, 35, 120, 68, 59]) S4 (by decide +kernel) (by decide +kernel) (by decide +kernel) (by decide) (by omega) rfl rfl rfl rfl rfl rfl ?_))
  intro t5 h5 tk5 S5
  have hb6 := rep_le (c := 13) (z := [38, 35, 120, 68, 59]) (m := 1200000) hb5 (by decide) (by decide)
  refine r_fall ?_
  kspl_open mm
  exact k _ _ _ S5.keep
def wr (κ c : Nat) : List Nat :=
  if c = 38 then [38, 97, 109, 112, 59]
  else if c = 60 ∧ κ ≠ 2 then [38, 108, 116, 59]
  else if c = 62 ∧ κ ≠ 4 then [38, 103, 116, 59]
  else if c = 34 ∧ (κ = 1 ∨ κ = 2 ∨ κ = 4) then [38, 113, 117, 111, 116, 59]
  else if c = 13 ∧ κ = 1 then [38, 35, 49, 51, 59]
  else if c = 13 ∧ (κ = 3 ∨ κ = 4) then [38, 35, 120, 68, 59]
  else if c = 10 ∧ κ = 1 then [38, 35, 49, 48, 59]
  else if c = 10 ∧ κ = 4 then [38, 35, 120, 65, 59]
  else if c = 9 ∧ κ = 1 then [38, 35, 48, 57, 59]
  else if c = 9 ∧ κ = 4 then [38, 35, 120, 57, 59]
  else [c]
set_option maxHeartbeats 8000000 in
theorem written_spec {w : World} {A : Around} {s : Shared} {h : Heap} {tk : Nat} {mean : ExcName → Option Value} {mg mb : Str → Option Value} {n : Nat} {κ c : Nat} {tx tc : Tok} {Q E : Value → Shared → Prop}
   (X : (hd.heap_39 w.params).In h) (T : TopM mean mg mb h) (R : Room (n + 1) A) (hk : κ < 5)
   (k : ∀ t h' tk, Keeps h h' → Q (.str ⟨(wr κ c).toArray⟩ t) (St s h' tk)) :
   wpAny (model Pr w) A (call (.ref 119) [.int κ tx, .str ⟨#[c]⟩ tc]) Q E (St s h tk) := by
  refine enter [("kind", .int κ tx), ("sign", .str ⟨#[c]⟩ tc)] X T R (by k_is) (by k_is) rfl (locs rfl) rfl ?_ rfl rfl rfl (by decide)
  intro L h₁ tk₁ S R'
  kspl_open mm
  all_goals refine q_strE ?_ (k _ _ _ (Sx.keep (by assumption)))
  all_goals (unfold wr; repeat (first | rw [if_pos (by omega)] | rw [if_neg (by omega)]))
  all_goals first | rfl | decide +kernel
/-- the octet of a figure, as a capital -/
def digU (d : Nat) : Nat := if d < 26 then 65 + d else 22 + d
def octU (ds : List Nat) : List UInt8 := ds.map fun d => (digU d).toUInt8
theorem octU_get {all pre tl : List Nat} {d : Nat} (e : all = pre ++ d :: tl) (hd : d < 36) : ((((octU all).getD ((pre.length : Nat) : Int).toNat 0).toNat : Nat) : Int) = (digU d : Nat) := by
  subst e
  unfold octU
  simp [List.getD_eq_getElem?_getD]
  unfold digU; split <;> omega
theorem octU_len (ds : List Nat) : (octU ds).length = ds.length := by simp [octU]
theorem digU_is {d : Nat} (h : d < 36) : (65 ≤ digU d ∧ digU d ≤ 90 ∧ digU d = 65 + d) ∨ (48 ≤ digU d ∧ digU d ≤ 57 ∧ digU d = 22 + d) := by unfold digU; split <;> omega
theorem tob2 {a b c d : Int} {t u : Tok} (e : a = b) (f : c = d) : some (tobj [.int a t, .int c u]) = some (tobj [.int b t, .int d u]) := by rw [e, f]
set_option maxHeartbeats 8000000 in
theorem decgen_spec {w : World} {A : Around} {s : Shared} {h : Heap} {tk : Nat} {mean : ExcName → Option Value} {mg mb : Str → Option Value} {n : Nat} {N b : Nat} {pre rest all : List Nat} {t1 t2 t3 t4 : Tok} {Q E : Value → Shared → Prop}
   (X : (hd.heap_39 w.params).In h) (T : TopM mean mg mb h) (R : Room (n + 2) A) (hall : pre ++ (enc b 0 N ++ rest) = all) (hlen : all.length ≤ 1000000)
   (k : ∀ a t t' h' tk, Keeps h h' → h'.get? a = some (tobj [.int ((pre.length + (enc b 0 N).length : Nat) : Int) t, .int (N : Nat) t']) → h.get? a = none → Q (.ref a) (St s h' tk)) :
   wpAny (model Pr w) A (call (.ref 49) [.bytes (octU all).toArray t1, .int (pre.length : Nat) t2, .int b t3, .str "strict" t4]) Q E (St s h tk) := by
  refine enter [("extended", .bytes (octU all).toArray t1), ("extpos", .int (pre.length : Nat) t2), ("bias", .int b t3), ("errors", .str "strict" t4)] X T R (by k_is) (by k_is) rfl (locs rfl) rfl ?_ rfl rfl rfl (by decide)
  intro L h₁ tk₁ S R'
  kspl_open mm
  rename_i S1
  refine r_while (fun n' s' => ∃ (N' j r W : Nat) (pr : List Nat) (u1 u2 u3 u4 : Tok) (h' : Heap) (tk' : Nat), s' = St s h' tk' ∧ N' = n' ∧ Sx h L [("extended", .bytes (octU all).toArray t1), ("extpos", .int (pr.length : Nat) u1), ("bias", .int b t3), ("errors", .str "strict" t4), ("result", .int r u2), ("w", .int W u3), ("j", .int j u4)] [] h' ∧ pr ++ (enc b j N' ++ rest) = all ∧ r + W * N' = N ∧ pr.length + (enc b j N').length = pre.length + (enc b 0 N).length) N ⟨N, 0, 0, 1, pre, _, _, _, _, _, _, rfl, rfl, S1.sub (by kspl_open mmsub), hall, by omega, rfl⟩ ?_
  rintro n' s' ⟨N', j, r, W, pr, u1, u2, u3, u4, h', tk', rfl, rfl, S4, hpre, hr, hpl⟩ Q' hT hR
  kspl_open mm
  refine r_try ?_
  kspl_open mm
  have hlo := Tn_lo j b
  have hhi := Tn_hi j b
  have hl2 := congrArg List.length hpre
  simp only [List.length_append] at hl2
  by_cases hN2 : N' < Tn j b
  · rw [enc_small hN2] at hpre hpl hl2
    simp only [List.length_cons, List.length_nil] at hl2 hpl
    refine r_bidx (k := (digU N' : Nat)) (by rw [octU_len]; omega) (by omega) (by rw [octU_len]; omega) (octU_get hpre.symm (by omega)) ?_ rfl (fun _ => rfl)
    intro t5 tk5
    have hdU := digU_is (d := N') (by omega)
    generalize digU N' = dU at hdU
    kspl_open mm
    all_goals (
      rename_i S5
      refine T_spec (X.keeps S5.keep) (Top.keeps T S5.keep) R' ?_
      intro t6 h6 tk6 hk6
      have S6 := S5.grow hk6
      rw [Tf_nat]
      kspl_open mm
      refine hR _ _ ?_
      kspl_open mm
      rename_i a7 h7 S7)
    all_goals (
      have S8 := S7.get (.head _)
      refine k _ _ _ _ _ S7.keep (S8.trans (tob2 (by omega) ?_)) (S7.nw _ (.head _)).2.2)
    · have : (dU : Int) - 65 = (N' : Nat) := by omega
      rw [this, ← hr]; push_cast; rw [Int.mul_comm]
  · rw [enc_big hN2] at hpre hpl hl2
    simp only [List.length_cons] at hl2 hpl
    have hmod := Nat.mod_lt (N' - Tn j b) (show 0 < 36 - Tn j b by omega)
    have hdiv := Nat.div_add_mod (N' - Tn j b) (36 - Tn j b)
    generalize hd' : Tn j b + (N' - Tn j b) % (36 - Tn j b) = d at hpre hpl hl2
    generalize hq' : (N' - Tn j b) / (36 - Tn j b) = q at hpre hpl hl2 hdiv
    have hNq : N' = d + (36 - Tn j b) * q := by omega
    refine r_bidx (k := (digU d : Nat)) (by rw [octU_len]; omega) (by omega) (by rw [octU_len]; omega) (octU_get (tl := enc b (j + 1) q ++ rest) hpre.symm (by omega)) ?_ rfl (fun _ => rfl)
    intro t5 tk5
    have hdU := digU_is (d := d) (by omega)
    generalize digU d = dU at hdU
    kspl_open mm
    all_goals (
      rename_i S5
      refine T_spec (X.keeps S5.keep) (Top.keeps T S5.keep) R' ?_
      intro t6 h6 tk6 hk6
      have S6 := S5.grow hk6
      rw [Tf_nat]
      kspl_open mm
      rename_i S7)
    all_goals (
      have e2 : (36 - ↑(Tn j b) : Int) = ((36 - Tn j b : Nat) : Int) := by omega
      have e1 : ((pr.length : Nat) : Int) + 1 = ((pr ++ [d]).length : Nat) := by simp)
    · have e3 : (r : Int) + (↑dU - 65) * ↑W = ((r + d * W : Nat) : Int) := by rw [show (dU : Int) - 65 = (d : Nat) by omega]; push_cast; rfl
      rw [e1, e2, e3] at S7
      refine hT q _ (by rw [← hq']; exact enc_dec hN2) ⟨q, j + 1, r + d * W, W * (36 - Tn j b), pr ++ [d], _, _, _, _, _, _, rfl, rfl, S7.sub (by kspl_open mmsub), ?_, ?_, ?_⟩
      · rw [← hpre]; simp
      · rw [← hr, hNq, Nat.mul_add, Nat.mul_comm d W, Nat.mul_assoc]; omega
      · rw [List.length_append, List.length_singleton]; omega
    · have e3 : (r : Int) + (↑dU - 22) * ↑W = ((r + d * W : Nat) : Int) := by rw [show (dU : Int) - 22 = (d : Nat) by omega]; push_cast; rfl
      rw [e1, e2, e3] at S7
      refine hT q _ (by rw [← hq']; exact enc_dec hN2) ⟨q, j + 1, r + d * W, W * (36 - Tn j b), pr ++ [d], _, _, _, _, _, _, rfl, rfl, S7.sub (by kspl_open mmsub), ?_, ?_, ?_⟩
      · rw [← hpre]; simp
      · rw [← hr, hNq, Nat.mul_add, Nat.mul_comm d W, Nat.mul_assoc]; omega
      · rw [List.length_append, List.length_singleton]; omega
/-- what insertion_sort builds; p is pos + 1 -/
def insL : List Nat → Nat → Nat → List Nat → List Nat
  | [], _, _, l => l
  | g :: r, c, p, l => insL r (c + (p + g) / (l.length + 1)) ((p + g) % (l.length + 1) + 1) (l.take ((p + g) % (l.length + 1)) ++ (c + (p + g) / (l.length + 1)) :: l.drop ((p + g) % (l.length + 1)))
def insOk : List Nat → Nat → Nat → List Nat → Prop
  | [], _, _, _ => True
  | g :: r, c, p, l => c + (p + g) / (l.length + 1) ≤ 1114111 ∧ insOk r (c + (p + g) / (l.length + 1)) ((p + g) % (l.length + 1) + 1) (l.take ((p + g) % (l.length + 1)) ++ (c + (p + g) / (l.length + 1)) :: l.drop ((p + g) % (l.length + 1)))
theorem enc_ne (b j N : Nat) : 1 ≤ (enc b j N).length := by
  by_cases h : N < Tn j b
  · rw [enc_small h]; exact Nat.le_refl _
  · rw [enc_big h, List.length_cons]; omega
set_option maxHeartbeats 8000000 in
theorem isort_spec {w : World} {A : Around} {s : Shared} {h : Heap} {tk : Nat} {mean : ExcName → Option Value} {mg mb : Str → Option Value} {n : Nat} {l : List Nat} {gs : List Nat} {t1 t2 t3 : Tok} {Q E : Value → Shared → Prop}
   (X : (hd.heap_39 w.params).In h) (T : TopM mean mg mb h) (R : Room (n + 3) A) (hl : l.length ≤ 10000) (hgs : gs.length ≤ 1000) (hg : ∀ g ∈ gs, g < 10 ^ 20) (hok : insOk gs 128 0 l)
   (k : ∀ t h' tk, Keeps h h' → Q (.str ⟨(insL gs 128 0 l).toArray⟩ t) (St s h' tk)) :
   wpAny (model Pr w) A (call (.ref 56) [.str ⟨l.toArray⟩ t1, .bytes (octU (encAll l.length 0 72 gs)).toArray t2, .str "strict" t3]) Q E (St s h tk) := by
  have hall0 := encAll_len l.length gs 0 72 hg
  generalize hall : encAll l.length 0 72 gs = all at hall0
  refine enter [("base", .str ⟨l.toArray⟩ t1), ("extended", .bytes (octU all).toArray t2), ("errors", .str "strict" t3)] X T R (by k_is) (by k_is) rfl (locs rfl) rfl ?_ rfl rfl rfl (by decide)
  intro L h₁ tk₁ S R'
  kspl_open mm
  rename_i S1
  refine r_while (fun n' s' => ∃ (gr : List Nat) (i c p b : Nat) (lb pr : List Nat) (u1 u2 u3 u4 u5 : Tok) (h' : Heap) (tk' : Nat), s' = St s h' tk' ∧ gr.length = n' ∧ gr.length + i = gs.length ∧ (∀ g ∈ gr, g < 10 ^ 20) ∧ lb.length = l.length + i ∧ Sx h L [("base", .str ⟨lb.toArray⟩ u1), ("extended", .bytes (octU all).toArray t2), ("errors", .str "strict" t3), ("char", .int c u2), ("pos", .int ((p : Nat) - 1) u3), ("bias", .int b u4), ("extpos", .int (pr.length : Nat) u5)] [] h' ∧ pr ++ encAll l.length i b gr = all ∧ (i = 0 ↔ pr.length = 0) ∧ insOk gr c p lb ∧ insL gr c p lb = insL gs 128 0 l) gs.length ⟨gs, 0, 128, 0, 72, l, [], _, _, _, _, _, _, _, rfl, rfl, rfl, hg, rfl, S1.sub (by kspl_open mmsub), hall, by simp, hok, rfl⟩ ?_
  rintro n' s' ⟨gr, i, c, p, b, lb, pr, u1, u2, u3, u4, u5, h', tk', rfl, rfl, hi, hgr, hlb, S4, hpre, hi0, hok, hins⟩ Q' hT hR
  kspl_open mm
  have hall2 := congrArg List.length hpre
  rw [List.length_append] at hall2
  have hel := encAll_len l.length gr i b hgr
  refine o_lenB (by rw [octU_len]; omega) ?_
  intro t5 tk5
  rw [octU_len]
  cases gr with
  | nil =>
    simp only [encAll, List.length_nil] at hall2
    kspl_open mm
    rw [insL] at hins
    exact hins ▸ k _ _ _ S4.keep
  | cons g gr =>
    simp only [encAll, List.length_append] at hall2
    have hene := enc_ne b 0 g
    obtain ⟨hok1, hok2⟩ := hok
    rw [insL] at hins
    simp only [List.length_cons] at hi hel
    rw [encAll] at hpre
    kspl_open mm
    rename_i hc5
    refine decgen_spec (X.keeps S4.keep) (Top.keeps T S4.keep) R' hpre (by omega) ?_
    intro a6 t6 t7 h6 tk6 hk6 ha6 hn6
    have S6 := S4.grow hk6
    kspl_open mm
    refine r_unpack2 R'.hh S6 ha6 (fun h7 S7 hk7 => ?_) rfl
    kspl_open mm
    refine o_lenT (by omega) ?_
    intro t8 tk8
    have ed : ((p : Int) - 1 + ((g : Int) + 1)).fdiv ((lb.length : Int) + 1) = ((p + g) / (lb.length + 1) : Nat) := by
      rw [show ((p : Int) - 1 + ((g : Int) + 1)) = ((p + g : Nat) : Int) by omega, show ((lb.length : Int) + 1) = ((lb.length + 1 : Nat) : Int) by omega, fdiv_nat]
    have em : ((p : Int) - 1 + ((g : Int) + 1)).fmod ((lb.length : Int) + 1) = ((p + g) % (lb.length + 1) : Nat) := by
      rw [show ((p : Int) - 1 + ((g : Int) + 1)) = ((p + g : Nat) : Int) by omega, show ((lb.length : Int) + 1) = ((lb.length + 1 : Nat) : Int) by omega, fmod_nat]
    have hml := Nat.mod_lt (p + g) (show 0 < lb.length + 1 by omega)
    generalize (p + g) / (lb.length + 1) = dv at ed hok1 hok2 hins
    generalize (p + g) % (lb.length + 1) = md at em hok2 hins hml
    kspl_open mm
    rename Sx _ _ _ _ _ => S8
    rw [ed] at S8
    refine o_lenT (by omega) ?_
    intro t9 tk9
    kspl_open mm
    rename Sx _ _ _ _ _ => S9
    rw [em] at S9 ⊢
    refine r_sliceTo S9 rfl (by omega) (by omega) ?_ (fun _ => rfl) (fun _ => rfl)
    intro t10 h10 tk10 S10
    kspl_open mm
    refine o_chr (c := c + dv) (by omega) (by omega) ?_
    intro t11 tk11
    kspl_open mm
    refine o_addT (y := [c + dv]) (by simp only [List.length_take, List.length_cons, List.length_nil]; omega) ?_
    intro t12 tk12
    kspl_open mm
    refine r_sliceFrom S10 rfl (by omega) (by omega) ?_ (fun _ => rfl) (fun _ => rfl)
    intro t13 h13 tk13 S13
    kspl_open mm
    refine o_addT (by simp only [List.length_append, List.length_take, List.length_drop, List.length_cons, List.length_nil]; omega) ?_
    intro t14 tk14
    rw [List.append_assoc, List.singleton_append]
    have hlen2 : (List.take md lb ++ (c + dv) :: List.drop md lb).length = lb.length + 1 := by
      simp only [List.length_append, List.length_take, List.length_drop, List.length_cons]; omega
    generalize List.take md lb ++ (c + dv) :: List.drop md lb = lb2 at hlen2 hok2 hins
    kspl_open mm
    rename Sx _ _ _ _ _ => S15
    refine o_lenT (by omega) ?_
    intro t16 tk16
    kspl_open mm
    have epr : (((pr.length : Nat) : Int) == 0) = (i == 0) := by
      rw [points0]
      by_cases h0 : i = 0
      · rw [h0, hi0.mp h0]
      · have : pr.length ≠ 0 := fun e => h0 (hi0.mpr e)
        rw [show (i == 0) = false from beq_false_of_ne h0]; exact beq_false_of_ne this
    rw [epr]
    refine adapt_spec (n := 0) (X.keeps S15.keep) (Top.keeps T S15.keep) (R'.mono (by omega)) (by omega) (by omega) ?_
    intro t17 h17 tk17 hk17
    have S17 := S15.grow hk17
    kspl_open mm
    rename Sx _ _ _ _ _ => S18
    rw [show (pr.length + (enc b 0 g).length : Nat) = (pr ++ enc b 0 g).length by rw [List.length_append], show ((md : Nat) : Int) = ((md + 1 : Nat) : Int) - 1 by omega, show ((c : Int) + (dv : Int)) = ((c + dv : Nat) : Int) by omega, show lb2.length = l.length + i + 1 by omega] at S18
    refine hT gr.length _ (by simp) ⟨gr, i + 1, c + dv, md + 1, adF g (i == 0) (l.length + i + 1), lb2, pr ++ enc b 0 g, _, _, _, _, _, _, _, rfl, rfl, by omega, fun x hx => hgr x (.tail _ hx), by omega, S18.sub (by kspl_open mmsub), ?_, ?_, hok2, hins⟩
    · rw [List.append_assoc]; exact hpre
    · rw [List.length_append]; constructor
      · intro e; cases e
      · intro e; omega
/-- octets of figures -/
def octD (ds : List Nat) : List UInt8 := ds.map fun d => (dig d).toUInt8
theorem octD_upper (ds : List Nat) (h : ∀ d ∈ ds, d < 36) : (octD ds).map Builtin.Bytes.toUpper = octU ds := by
  unfold octD octU
  rw [List.map_map]
  apply List.map_congr_left
  intro d hd
  have : ∀ d, d < 36 → Builtin.Bytes.toUpper (dig d).toUInt8 = (digU d).toUInt8 := by decide
  exact this d (h d hd)
theorem octD_45 (ds : List Nat) (h : ∀ d ∈ ds, d < 36) : (45 : UInt8) ∉ octD ds := by
  unfold octD
  intro hm
  obtain ⟨d, hd, e⟩ := List.mem_map.mp hm
  have : ∀ d, d < 36 → (dig d).toUInt8 ≠ 45 := by decide
  exact this d (h d hd) e
theorem encAll_lt (base : Nat) : ∀ (gs : List Nat) (p b : Nat), ∀ d ∈ encAll base p b gs, d < 36
  | [], _, _, d, h => by simp [encAll] at h
  | g :: r, p, b, d, h => by
    rw [encAll] at h
    rcases List.mem_append.mp h with h | h
    · exact enc_lt _ _ _ d h
    · exact encAll_lt base r _ _ d h
set_option maxHeartbeats 8000000 in
theorem decode_spec0 {w : World} {A : Around} {s : Shared} {h : Heap} {tk : Nat} {mean : ExcName → Option Value} {mg mb : Str → Option Value} {n : Nat} {gs : List Nat} {t1 t2 : Tok} {Q E : Value → Shared → Prop}
   (X : (hd.heap_39 w.params).In h) (T : TopM mean mg mb h) (R : Room (n + 4) A) (hgs : gs.length ≤ 1000) (hg : ∀ g ∈ gs, g < 10 ^ 20) (hok : insOk gs 128 0 [])
   (k : ∀ t h' tk, Keeps h h' → Q (.str ⟨(insL gs 128 0 []).toArray⟩ t) (St s h' tk)) :
   wpAny (model Pr w) A (call (.ref 63) [.bytes (octD (encAll 0 0 72 gs)).toArray t1, .str "strict" t2]) Q E (St s h tk) := by
  refine enter [("text", .bytes (octD (encAll 0 0 72 gs)).toArray t1), ("errors", .str "strict" t2)] X T R (by k_is) (by k_is) rfl (locs rfl) rfl ?_ rfl rfl rfl (by decide)
  intro L h₁ tk₁ S R'
  have hlen := encAll_len 0 gs 0 72 hg
  have hrf := rfind_none (octD (encAll 0 0 72 gs)) (octD_45 _ (encAll_lt _ _ _ _))
  kspl_open mm
  refine o_upper (by unfold octD; rw [List.length_map]; omega) ?_
  intro t3 tk3
  rw [octD_upper _ (encAll_lt _ _ _ _)]
  kspl_open mm
  refine r_try ?_
  kspl_open mm
  rename Sx _ _ _ _ _ => S2
  rw [show Str.ofString "" = (⟨([] : List Nat).toArray⟩ : Str) by decide +kernel] at S2 ⊢
  refine isort_spec (l := []) (X.keeps S2.keep) (Top.keeps T S2.keep) R' (by simp) hgs hg hok ?_
  intro t4 h4 tk4 hk4
  have S3 := S2.grow hk4
  kspl_open mm
  exact k _ _ _ S3.keep
theorem toNat_u {l : List Nat} (h : ∀ c ∈ l, c < 128) : (l.map Nat.toUInt8).map UInt8.toNat = l := by
  rw [List.map_map]
  conv => rhs; rw [← List.map_id l]
  apply List.map_congr_left
  intro c hc
  have := h c hc
  show (Nat.toUInt8 c).toNat = c
  simp; omega
set_option maxHeartbeats 8000000 in
theorem decode_spec1 {w : World} {A : Around} {s : Shared} {h : Heap} {tk : Nat} {mean : ExcName → Option Value} {mg mb : Str → Option Value} {n : Nat} {l gs : List Nat} {t1 t2 : Tok} {Q E : Value → Shared → Prop}
   (X : (hd.heap_39 w.params).In h) (T : TopM mean mg mb h) (R : Room (n + 4) A) (hl : l.length ≤ 10000) (hne : l ≠ []) (h128 : ∀ c ∈ l, c < 128) (hgs : gs.length ≤ 1000) (hg : ∀ g ∈ gs, g < 10 ^ 20) (hok : insOk gs 128 0 l)
   (k : ∀ t h' tk, Keeps h h' → Q (.str ⟨(insL gs 128 0 l).toArray⟩ t) (St s h' tk)) :
   wpAny (model Pr w) A (call (.ref 63) [.bytes (l.map Nat.toUInt8 ++ 45 :: octD (encAll l.length 0 72 gs)).toArray t1, .str "strict" t2]) Q E (St s h tk) := by
  refine enter [("text", .bytes (l.map Nat.toUInt8 ++ 45 :: octD (encAll l.length 0 72 gs)).toArray t1), ("errors", .str "strict" t2)] X T R (by k_is) (by k_is) rfl (locs rfl) rfl ?_ rfl rfl rfl (by decide)
  intro L h₁ tk₁ S R'
  have hlen := encAll_len l.length gs 0 72 hg
  have hrf := rfind_at (l.map Nat.toUInt8) (octD (encAll l.length 0 72 gs)) (octD_45 _ (encAll_lt _ _ _ _))
  rw [List.length_map] at hrf
  have htl : (l.map Nat.toUInt8 ++ 45 :: octD (encAll l.length 0 72 gs)).length = l.length + 1 + (encAll l.length 0 72 gs).length := by
    simp [octD]; omega
  have htk : (l.map Nat.toUInt8 ++ 45 :: octD (encAll l.length 0 72 gs)).take l.length = l.map Nat.toUInt8 := by
    rw [List.take_append_of_le_length (by simp), List.take_of_length_le (by simp)]
  have htd : (l.map Nat.toUInt8 ++ 45 :: octD (encAll l.length 0 72 gs)).drop (l.length + 1) = octD (encAll l.length 0 72 gs) := by
    rw [List.drop_append]; simp
  generalize htx : l.map Nat.toUInt8 ++ 45 :: octD (encAll l.length 0 72 gs) = tx at *
  kspl_open mm
  refine r_try ?_
  kspl_open mm
  rename Sx _ _ _ _ _ => S2
  rw [hrf] at S2 ⊢
  refine r_bsliceTo S2 rfl (by omega) (by omega) ?_ (fun _ => rfl) (fun _ => rfl)
  intro t3 h3 tk3 S3
  rw [htk]
  kspl_open mm
  refine o_strAscii (by simpa using hne) ?_ (by rw [List.length_map]; omega) ?_
  · intro d hd
    obtain ⟨c, hc, rfl⟩ := List.mem_map.mp hd
    have := h128 c hc
    simp; omega
  intro t4 tk4
  rw [toNat_u h128]
  kspl_open mm
  rename Sx _ _ _ _ _ => S4
  refine r_bsliceFrom S4 (n := l.length + 1) (by omega) (by omega) (by omega) ?_ (fun _ => rfl) (fun _ => rfl)
  intro t5 h5 tk5 S5
  rw [htd]
  kspl_open mm
  refine o_upper (by unfold octD; rw [List.length_map]; omega) ?_
  intro t6 tk6
  rw [octD_upper _ (encAll_lt _ _ _ _)]
  kspl_open mm
  refine r_try ?_
  kspl_open mm
  rename Sx _ _ _ _ _ => S7
  refine isort_spec (X.keeps S7.keep) (Top.keeps T S7.keep) R' hl hgs hg hok ?_
  intro t8 h8 tk8 hk8
  have S8 := S7.grow hk8
  kspl_open mm
  exact k _ _ _ S8.keep
/-- the signs from 128 on, with their places -/
def ordP (cs : List Nat) : List (Nat × Nat) := cs.zipIdx.filter fun p => decide (127 < p.1)
theorem ordP_pos {cs : List Nat} {i : Nat} (hi : i < cs.length) (h : 127 < cs[i]) : ordP (cs.take (i + 1)) = ordP (cs.take i) ++ [(cs[i], i)] := by
  unfold ordP
  rw [List.take_succ_eq_append_getElem hi, List.zipIdx_append, List.filter_append]
  simp [h, Nat.min_eq_left (Nat.le_of_lt hi)]
theorem ordP_neg {cs : List Nat} {i : Nat} (hi : i < cs.length) (h : ¬ 127 < cs[i]) : ordP (cs.take (i + 1)) = ordP (cs.take i) := by
  unfold ordP
  rw [List.take_succ_eq_append_getElem hi, List.zipIdx_append, List.filter_append]
  simp [h]
theorem ordP_mem {cs : List Nat} {p : Nat × Nat} : p ∈ ordP cs ↔ cs[p.2]? = some p.1 ∧ 127 < p.1 := by
  unfold ordP
  rw [List.mem_filter, List.mem_zipIdx_iff_getElem?]
  simp
theorem ordP_lt {cs : List Nat} {p : Nat × Nat} (h : p ∈ ordP cs) : p.2 < cs.length := (List.getElem?_eq_some_iff.mp (ordP_mem.mp h).1).1
theorem ordP_nodup (cs : List Nat) : (ordP cs).Nodup := by
  unfold ordP
  refine List.Pairwise.filter _ ?_
  have h1 : (cs.zipIdx.map (·.2)).Nodup := by
    rw [List.zipIdx_map_snd]; exact List.nodup_range'
  exact (List.pairwise_map.mp h1).imp fun hne e => hne (by rw [e])
theorem PairsIn.snoc {mu : List (Addr × Obj)} {vs ps} {a : Addr} {c i : Nat} {t u : Tok} (h : PairsIn mu vs ps) : PairsIn ((a, tobj [.int (c : Nat) t, .int (i : Nat) u]) :: mu) (vs ++ [.ref a]) (ps ++ [(c, i)]) := by
  refine ⟨by simp [h.1], fun j p e => ?_⟩
  by_cases hj : j < ps.length
  · rw [List.getElem?_append_left hj] at e
    obtain ⟨b, t, u, h1, h2⟩ := h.2 j p e
    exact ⟨b, t, u, by rw [List.getElem?_append_left (by rw [h.1]; exact hj)]; exact h1, .tail _ h2⟩
  · rw [List.getElem?_append_right (by omega)] at e
    have : j - ps.length = 0 := by
      cases hjj : j - ps.length with
      | zero => rfl
      | succ n => rw [hjj] at e; simp at e
    rw [this] at e
    cases e
    exact ⟨a, t, u, by rw [List.getElem?_append_right (by rw [h.1]; omega), h.1, this]; rfl, .head _⟩
set_option maxHeartbeats 8000000 in
theorem order_spec {w : World} {A : Around} {s : Shared} {h : Heap} {tk : Nat} {mean : ExcName → Option Value} {mg mb : Str → Option Value} {n : Nat} {a : Addr} {vs : List Value} {ep : Nat} {cs : List Nat} {Q E : Value → Shared → Prop}
   (X : (hd.heap_39 w.params).In h) (T : TopM mean mg mb h) (R : Room (n + 1) A) (ha : h.get? a = some (lobj vs ep)) (hs : StrsAre vs (ones cs)) (hlen : cs.length < 1000) (h64 : (ordP cs).length < 64)
   (k : ∀ D ep out qs mu h' tk, New h ((D, lobj out ep) :: mu) h' → PairsIn mu out qs → qs.Perm (ordP cs) → qs.Pairwise (fun p q => pkey p < pkey q) → Q (.ref D) (St s h' tk)) :
   wpAny (model Pr w) A (call (.ref 124) [.ref a]) Q E (St s h tk) := by
  refine enterK [("signs", .ref a)] [] ["signs"] [some (.ref a)] X T R (by k_is) (by k_is) rfl ?_ ?_ ?_ ?_ rfl rfl rfl
  · intro L x hx
    rw [List.mem_singleton.mp hx]
    exact .inr ⟨rfl, rfl⟩
  · intro L x v e; cases e
  · intro L i x e
    match i, e with
    | 0, e => cases e; exact ⟨_, rfl, rfl, rfl⟩
  intro L h₁ tk₁ ob hob S R'
  have hc := hob 0 (by decide)
  have hvl := ones_len hs
  replace S : Sx h L [] [(L + 1, ob 0)] h₁ := S
  kspl_open mm
  refine r_comp (cl := [("signs", L + 1)]) ?_ rfl rfl (by decide) (fun _ => rfl)
  kspl_open mm
  refine r_cell (c := L + 1) rfl (S.get (.head _)) hc rfl rfl rfl ?_
  kspl_open mm
  refine o_lenL (S.keep _ _ ha) (by omega) ?_
  intro t2 tk2
  kspl_open mm
  rename Sx _ _ _ _ _ => S2
  refine it_range R'.hh (by omega) (S2.get (.head _)) ?_
  intro I oI h3 StI K
  have X2 := X.keeps S2.keep
  have T2 := Top.keeps T S2.keep
  have hcell : CellAt _ (L + 1) (.ref a) := ⟨ob 0, S2.get (.tail _ (.head _)), hc⟩
  refine comp_val K S2 (by omega) (by decide) rfl rfl (fun i acc mu => i ≤ cs.length ∧ acc.length ≤ i ∧ PairsIn mu acc (ordP (cs.take i))) ⟨Nat.zero_le _, Nat.zero_le _, rfl, fun i p e => by simp [ordP] at e⟩ ?_ (fun i acc mu hJ => hJ.2.1) ?_
  · rintro C i v acc mu l its h4 tk4 hi ⟨ti, rfl⟩ ⟨hJ1, hJ2, hJ3⟩ S4
    rw [hvl] at hi
    obtain ⟨tc, hvi⟩ := ones_at hs (i := i) (c := cs[i]) (by simp [hi])
    refine r_ifs1 ?_
    kspl_open mm
    have ha4 := S4.keep _ _ (S2.keep _ _ ha)
    refine r_itemL ha4 rfl hvi (by omega) ?_ (fun _ => rfl) (fun _ => rfl)
    kspl_open mm
    · refine r_itemL ha4 rfl hvi (by omega) ?_ (fun _ => rfl) (fun _ => rfl)
      kspl_open mm
      rename Sx _ _ _ _ _ => S5
      refine r_compEnd (mu := _ :: mu) S5 ⟨hi, by simp only [List.length_append, List.length_cons, List.length_nil]; omega, ?_⟩
      rw [ordP_pos hi (by omega)]
      exact hJ3.snoc
    · refine r_compEnd S4 ⟨hi, by omega, ?_⟩
      rw [ordP_neg hi (by omega)]
      exact hJ3
  · rintro D acc ep2 mu h4 tk4 ⟨hJ1, hJ2, hJ3⟩ S4
    rw [hvl, List.take_length] at hJ3
    kspl_open mm
    refine r_sorted S4 (S4.get (.head _)) (hJ3.mono fun p hp => .tail _ (List.mem_append_left _ hp)) h64 (fun p hp => ?_) (ordP_nodup cs) ?_
    · have := ordP_lt hp; omega
    intro D2 ep3 h5 out qs S5 hP hperm hpw
    kspl_open mm
    exact k _ _ _ _ _ _ _ S5.new hP hperm hpw
/-- how many signs of no higher code lie ahead of a place -/
def aheadN (cs : List Nat) (now place : Nat) : Nat := ((cs.take place).filter fun c => decide (c ≤ now)).length
def gapsL (cs : List Nat) (bare : Nat) : Nat → Nat → Nat → List (Nat × Nat) → List Int
  | _, _, _, [] => []
  | k, code, behind, (now, place) :: r => (((now : Int) - (code : Int)) * ((bare : Int) + (k : Int) + 1) + (aheadN cs now place : Int) - (behind : Int)) :: gapsL cs bare (k + 1) now (aheadN cs now place + 1) r
theorem IntsAre.snoc {vs : List Value} {ns : List Int} {n : Int} {t : Tok} (h : IntsAre vs ns) : IntsAre (vs ++ [.int n t]) (ns ++ [n]) := by
  induction h with
  | nil => exact .cons _ _ .nil
  | cons m t _ ih => exact .cons _ _ ih
theorem ahead_pos {cs : List Nat} {now j : Nat} (hj : j < cs.length) (h : cs[j] ≤ now) : aheadN cs now (j + 1) = aheadN cs now j + 1 := by
  unfold aheadN
  rw [List.take_succ_eq_append_getElem hj, List.filter_append]
  simp [h]
theorem ahead_neg {cs : List Nat} {now j : Nat} (hj : j < cs.length) (h : ¬ cs[j] ≤ now) : aheadN cs now (j + 1) = aheadN cs now j := by
  unfold aheadN
  rw [List.take_succ_eq_append_getElem hj, List.filter_append]
  simp [h]
set_option maxHeartbeats 8000000 in
theorem gaps_spec {w : World} {A : Around} {s : Shared} {h : Heap} {tk : Nat} {mean : ExcName → Option Value} {mg mb : Str → Option Value} {n : Nat} {a : Addr} {vs : List Value} {ep : Nat} {cs : List Nat} {Q E : Value → Shared → Prop}
   (X : (hd.heap_39 w.params).In h) (T : TopM mean mg mb h) (R : Room (n + 2) A) (ha : h.get? a = some (lobj vs ep)) (hs : StrsAre vs (ones cs)) (hlen : cs.length < 1000) (h64 : (ordP cs).length < 64)
   (k : ∀ D ep out qs h' tk, New h [(D, lobj out ep)] h' → qs.Perm (ordP cs) → qs.Pairwise (fun p q => pkey p < pkey q) → IntsAre out (gapsL cs (cs.length - qs.length) 0 128 0 qs) → Q (.ref D) (St s h' tk)) :
   wpAny (model Pr w) A (call (.ref 129) [.ref a]) Q E (St s h tk) := by
  refine enterK [("signs", .ref a)] [] ["signs", "now"] [some (.ref a), none] X T R (by k_is) (by k_is) rfl ?_ ?_ ?_ ?_ rfl rfl rfl
  · intro L x hx
    rw [List.mem_singleton.mp hx]
    exact .inr ⟨rfl, rfl⟩
  · intro L x v e; cases e
  · intro L i x e
    match i, e with
    | 0, e => cases e; exact ⟨_, rfl, rfl, rfl⟩
    | 1, e => cases e; exact ⟨_, rfl, rfl, rfl⟩
  intro L h₁ tk₁ ob hob S R'
  have hc : (ob 0).data = .cell (some (.ref a)) := hob 0 (by decide)
  have hc1 : (ob 1).data = .cell none := hob 1 (by decide)
  have hvl := ones_len hs
  replace S : Sx h L [] [(L + 1, ob 0), (L + 1 + 1, ob 1)] h₁ := S
  kspl_open mm
  refine order_spec (X.keeps S.keep) (Top.keeps T S.keep) R' (S.keep _ _ ha) hs hlen h64 ?_
  intro D2 ep2 out2 qs mu2 h2 tk2 N2 hP hperm hpw
  have S2 : Sx h L [] ((L + 1, ob 0) :: (L + 1 + 1, ob 1) :: (D2, lobj out2 ep2) :: mu2) h2 := (S.got N2).perm perm2.symm
  have hql := hperm.length_eq
  have hqc : qs.length ≤ cs.length := by rw [hql]; unfold ordP; refine Nat.le_trans (List.length_filter_le _ _) ?_; simp
  have hol : out2.length = qs.length := hP.1
  kspl_open mm
  rename Sx _ _ _ _ _ => S3
  refine o_lenL (S3.keep _ _ ha) (by omega) ?_
  intro t4 tk4
  kspl_open mm
  refine o_lenL (S3.get (.tail _ (.tail _ (.head _)))) (by omega) ?_
  intro t5 tk5
  kspl_open mm
  rename Sx _ _ _ _ _ => S4
  refine r_for ?_ (fun _ => rfl)
  kspl_open mm
  refine o_lenL (S4.get (.tail _ (.tail _ (.tail _ (.head _))))) (by omega) ?_
  intro t6 tk6
  kspl_open mm
  rename Sx _ _ _ _ _ => S5
  rw [show ((vs.length : Int) - (out2.length : Int)) = ((cs.length - qs.length : Nat) : Int) by omega] at S5
  refine it_range R'.hh (by omega) (S5.get (.head _)) ?_
  intro I oI h6 StI K
  generalize hbare : cs.length - qs.length = bare at S5 k
  refine (fun (g : Addr) (t1 t2 t3 : Tok) (S6 : Sx h L ([("behind", .int (0 : Nat) t1), ("code", .int (128 : Nat) t2), ("gaps", .ref g), ("bare", .int (bare : Nat) t3), ("order", .ref D2)] : List (Str × Value)) ((g, lobj [] 0) :: (L + 1, ob 0) :: (L + 1 + 1, ob 1) :: (D2, lobj out2 ep2) :: mu2) _) => ?_) _ _ _ _ (S5.drop (List.sublist_cons_self _ _))
  refine r_forIt K S6 (fun i l mu => ∃ (code behind : Nat) (u1 u2 : Tok) (out : List Value) (pre : List Int) (ep3 : Nat) (o1 : Obj) (cv : Option Value), l = ([("behind", .int behind u1), ("code", .int code u2), ("gaps", .ref g), ("bare", .int (bare : Nat) t3), ("order", .ref D2)] : List (Str × Value)) ∧ mu = (g, lobj out ep3) :: (L + 1, ob 0) :: (L + 1 + 1, o1) :: (D2, lobj out2 ep2) :: mu2 ∧ o1.data = .cell cv ∧ IntsAre out pre ∧ pre.length = i ∧ pre ++ gapsL cs bare i code behind (qs.drop i) = gapsL cs bare 0 128 0 qs)
    ⟨128, 0, _, _, [], [], 0, ob 1, none, rfl, rfl, hc1, .nil, rfl, rfl⟩ (fun b hb => nomatch hb) (fun i v h tk Q E hP hS hq => ?_) ?_ ?_
  · exact wpAny_pure hq
  · rintro i v l' mu' oI' h7 tk7 hi ⟨ti, rfl⟩ ⟨code, behind, u1, u2, out, pre, ep3, o1, cv, rfl, rfl, ho1, hout, hprel, hpre⟩ S7 Q' hT
    rw [hol] at hi
    obtain ⟨b, tn, tp, hb1, hb2⟩ := hP.2 i qs[i] (by simp [hi])
    have hdrop : qs.drop i = qs[i] :: qs.drop (i + 1) := List.drop_eq_getElem_cons hi
    generalize hqi : qs[i] = q at hb1 hb2 hdrop
    obtain ⟨now, place⟩ := q
    have hpl : place < cs.length := ordP_lt (hperm.mem_iff.mp (show (now, place) ∈ qs from hqi ▸ List.getElem_mem hi))
    rw [hdrop, gapsL] at hpre
    dsimp only at hb2
    kspl_open mm
    rename Sx _ _ _ _ _ => S8
    refine r_itemL (S8.get (.tail _ (.tail _ (.tail _ (.tail _ (.head _)))))) rfl hb1 (by omega) ?_ (fun _ => rfl) (fun _ => rfl)
    kspl_open mm
    refine r_unpack2 R'.hh S8 (S8.get (.tail _ (.tail _ (.tail _ (.tail _ (.tail _ hb2)))))) (fun h9 S9 hk9 => ?_) rfl
    kspl_open mm
    refine r_storeCellAt [(I, oI'), (g, lobj out ep3), (L + 1, ob 0)] S9 ho1 rfl rfl rfl ?_
    intro o2 h10 tk10 ho2 S10
    replace S10 : Sx h L _ ((I, oI') :: (g, lobj out ep3) :: (L + 1, ob 0) :: (L + 1 + 1, o2) :: (D2, lobj out2 ep2) :: mu2) h10 := S10
    kspl_open mm
    rename Sx _ _ _ _ _ => S11
    refine r_comp (cl := [("signs", L + 1), ("now", L + 1 + 1)]) ?_ rfl rfl (by decide) (fun _ => rfl)
    kspl_open mm
    rename Sx _ _ _ _ _ => S12
    refine it_range R'.hh (by omega) (S12.get (.head _)) ?_
    intro I2 oI2 h13 StI2 K2
    have X2 := X.keeps S12.keep
    have T2 := Top.keeps T S12.keep
    have hcell : CellAt _ (L + 1) (.ref a) := ⟨ob 0, S12.get (.tail _ (.tail _ (.tail _ (.head _)))), hc⟩
    have hcell2 : CellAt _ (L + 1 + 1) (.int (now : Nat) tn) := ⟨o2, S12.get (.tail _ (.tail _ (.tail _ (.tail _ (.head _))))), ho2⟩
    have ha12 := S12.keep _ _ ha
    refine comp_val K2 S12 (by omega) (by decide) rfl rfl (fun j acc mu => mu = [] ∧ acc.length ≤ j ∧ acc.length = aheadN cs now j) ⟨rfl, Nat.le_refl _, rfl⟩ ?_ (fun i acc mu hJ => hJ.2.1) ?_
    · rintro C j v acc mu l its h14 tk14 hj ⟨tj, rfl⟩ ⟨rfl, hJ2, hJ3⟩ S14
      have hjl : j < cs.length := by omega
      obtain ⟨tc, hvi⟩ := ones_at hs (i := j) (c := cs[j]) (by simp [hjl])
      refine r_ifs1 ?_
      have ha14 := S14.keep _ _ ha12
      kspl_open mm
      refine r_itemL ha14 rfl hvi (by omega) ?_ (fun _ => rfl) (fun _ => rfl)
      kspl_open mm
      · refine r_compEnd S14 ⟨rfl, by simp only [List.length_append, List.length_cons, List.length_nil]; omega, ?_⟩
        rw [ahead_pos hjl (by omega), List.length_append, hJ3]; rfl
      · refine r_compEnd S14 ⟨rfl, by omega, ?_⟩
        rw [ahead_neg hjl (by omega), hJ3]
    · rintro D3 acc ep4 mu h14 tk14 ⟨rfl, hJ2, hJ3⟩ S14
      replace S14 := S14.drop (mu' := (D3, lobj acc ep4) :: (I, oI') :: (g, lobj out ep3) :: (L + 1, ob 0) :: (L + 1 + 1, o2) :: (D2, lobj out2 ep2) :: mu2) (.cons_cons _ (.cons _ (List.Sublist.refl _)))
      kspl_open mm
      refine o_lenL (S14.get (.head _)) (by omega) ?_
      intro t15 tk15
      rw [hJ3]
      kspl_open mm
      rename Sx _ _ _ _ _ => S16
      refine gm_append_l (S16.get (.tail _ (.tail _ (.head _)))) ?_
      kspl_open mm
      refine r_appendAt [(D3, lobj acc ep4), (I, oI')] S16 (by rw [hout.length, hprel]; omega) ?_
      intro h17 S17
      replace S17 : Sx h L _ ((D3, lobj acc ep4) :: (I, oI') :: (g, lobj (out ++ [_]) (ep3 + 1)) :: (L + 1, ob 0) :: (L + 1 + 1, o2) :: (D2, lobj out2 ep2) :: mu2) h17 := S17
      kspl_open mm
      rename Sx _ _ _ _ _ => S18
      replace S18 := (S18.drop (List.sublist_cons_self _ _)).perm perm1
      rw [show ((aheadN cs now place : Nat) : Int) + 1 = ((aheadN cs now place + 1 : Nat) : Int) by omega] at S18
      refine hT (S18.sub (l' := ([("behind", .int (aheadN cs now place + 1 : Nat) _), ("code", .int (now : Nat) _), ("gaps", .ref g), ("bare", .int (bare : Nat) t3), ("order", .ref D2)] : List (Str × Value))) (by kspl_open mmsub)) ⟨now, aheadN cs now place + 1, _, _, _, pre ++ [_], ep3 + 1, o2, _, rfl, rfl, ho2, (IntsAre.snoc hout), by simp [hprel], ?_⟩
      rw [List.append_assoc, List.singleton_append]
      exact hpre
  · rintro l' mu' h7 tk7 ⟨code, behind, u1, u2, out, pre, ep3, o1, cv, rfl, rfl, ho1, hout, hprel, hpre⟩ S7
    rw [hol, List.drop_length, gapsL, List.append_nil] at hpre
    kspl_open mm
    refine k g _ _ qs _ _ (S7.drop (mu' := [(g, lobj out ep3)]) (.cons_cons _ (List.nil_sublist _))).new hperm hpw ?_
    rw [hbare, ← hpre]; exact hout
def PairsAt (h : Heap) (vs : List Value) (ps : List (Nat × Nat)) : Prop := vs.length = ps.length ∧ ∀ (i : Nat) (p : Nat × Nat), ps[i]? = some p → ∃ (a : Addr) (t u : Tok), vs[i]? = some (Value.ref a) ∧ h.get? a = some (tobj [.int (p.1 : Nat) t, .int (p.2 : Nat) u])
theorem PairsAt.keeps {h h' : Heap} {vs ps} (x : PairsAt h vs ps) (hk : Keeps h h') : PairsAt h' vs ps := ⟨x.1, fun i p e => let ⟨a, t, u, h1, h2⟩ := x.2 i p e; ⟨a, t, u, h1, hk _ _ h2⟩⟩
abbrev txts (ps : List (List Nat)) : List Str := ps.map fun l => (⟨l.toArray⟩ : Str)
/-- the signs that come ahead of each place -/
def cum (c : Int) : List (List Nat) → List Int
  | [] => []
  | p :: r => (c + (p.length : Nat) - 1) :: cum (c + (p.length : Nat) - 1) r
def raisedL (al : List Int) (last : Int) : Nat → Int → List Int → List (Nat × Nat) → List Int
  | code, before, g :: gr, (now, place) :: r => (g + ((now : Int) - (code : Int)) * last + al.getD place 0 - before) :: raisedL al last now (al.getD place 0) gr r
  | _, _, _, _ => []
theorem r_itemLast {prog : Program} {w : World} {A : Around} {E : Value → Shared → Prop} {s : Shared} {h : Heap} {tk : Nat} {u : Tok} {Q : Value → Shared → Prop} {value slice : Expr} {a : Addr} {vi : List Value} {ep : Nat} {v : Value} (ha : h.get? a = some (lobj (vi ++ [v]) ep)) (hq : Q v (St s h tk))
    (hs : ∀ u, subscripted slice false (.ref a) (.int (-1) u) = operate [.ref a, .int (-1) u] (getItem (.ref a) (.int (-1) u)))
    (ht : ∀ r, letTemporaryGo value (.ref a) r = pure ()) : wpAny (model prog w) A (subscriptTail value slice (.ref a) (.int (-1) u)) Q E (St s h tk) :=
  item_last (s := St s h tk) (isList_lobj ha) hq (hs u) ht
theorem txts_at {vs : List Value} {ps : List (List Nat)} (h : StrsAre vs (txts ps)) {i : Nat} {p : List Nat} (e : ps[i]? = some p) : ∃ t, vs[i]? = some (.str ⟨p.toArray⟩ t) :=
  h.at (by rw [List.getElem?_map, e]; rfl)
theorem ints_get {vs : List Value} {ns : List Int} (h : IntsAre vs ns) {i : Nat} (hi : i < ns.length) : ∃ t, vs[i]? = some (.int (ns.getD i 0) t) := by
  induction h generalizing i with
  | nil => simp at hi
  | cons m t _ ih =>
    cases i with
    | zero => exact ⟨t, rfl⟩
    | succ j => exact ih (by simpa using hi)
theorem cum_len : ∀ (ps : List (List Nat)) (c : Int), (cum c ps).length = ps.length
  | [], _ => rfl
  | p :: r, c => by simp [cum, cum_len r]
set_option maxHeartbeats 8000000 in
theorem raised_spec {w : World} {A : Around} {s : Shared} {h : Heap} {tk : Nat} {mean : ExcName → Option Value} {mg mb : Str → Option Value} {n : Nat} {a1 a2 a3 : Addr} {vg vo vp : List Value} {e1 e2 e3 : Nat} {gl : List Int} {qs : List (Nat × Nat)} {ps : List (List Nat)} {Q E : Value → Shared → Prop}
   (X : (hd.heap_39 w.params).In h) (T : TopM mean mg mb h) (R : Room (n + 1) A) (h1 : h.get? a1 = some (lobj vg e1)) (h2 : h.get? a2 = some (lobj vo e2)) (h3 : h.get? a3 = some (lobj vp e3))
   (hg : IntsAre vg gl) (ho : PairsAt h vo qs) (hp : StrsAre vp (txts ps)) (hlp : ps.length < 1000) (hpl : ∀ p ∈ ps, p.length ≤ 1000) (hlq : qs.length < 1000) (hgq : gl.length = qs.length) (hq1 : ∀ q ∈ qs, q.1 ≤ 1114111 ∧ q.2 < ps.length)
   (k : ∀ D ep out h' tk, New h [(D, lobj out ep)] h' → IntsAre out (raisedL (0 :: cum 0 ps) ((0 :: cum 0 ps).getD ps.length 0) 128 0 gl qs) → Q (.ref D) (St s h' tk)) :
   wpAny (model Pr w) A (call (.ref 143) [.ref a1, .ref a2, .ref a3]) Q E (St s h tk) := by
  refine enter [("gaps", .ref a1), ("order", .ref a2), ("pieces", .ref a3)] X T R (by k_is) (by k_is) rfl (locs rfl) rfl ?_ rfl rfl rfl (by decide)
  intro L h₁ tk₁ S R'
  kspl_open mm
  rename Sx _ _ _ _ _ => S2
  refine r_for ?_ (fun _ => rfl)
  kspl_open mm
  refine it_list R'.hh (S2.keep _ _ h3) ?_
  intro I oI h4 StI K
  have hvp : vp.length = ps.length := by rw [hp.len_eq, List.length_map]
  refine (fun (r : Addr) (t1 : Tok) (S3 : Sx h L ([("ahead", .ref r), ("gaps", .ref a1), ("order", .ref a2), ("pieces", .ref a3)] : List (Str × Value)) [(r, lobj [.int 0 t1] 0)] _) => ?_) _ _ S2
  refine r_forIt K S3 (fun i l mu => ∃ (vi : List Value) (pv : List Int) (last : Int) (tl : Tok) (ep3 : Nat), l = ([("ahead", .ref r), ("gaps", .ref a1), ("order", .ref a2), ("pieces", .ref a3)] : List (Str × Value)) ∧ mu = [(r, lobj (vi ++ [.int last tl]) ep3)] ∧ IntsAre vi pv ∧ pv.length = i ∧ pv ++ last :: cum last (ps.drop i) = 0 :: cum 0 ps)
    ⟨[], [], 0, t1, 0, rfl, rfl, .nil, rfl, rfl⟩ (fun b hb => ⟨lobj vp e3, fun i l' mu' h' _ S' => by rw [List.mem_singleton.mp hb]; exact S'.keep _ _ h3⟩) (fun i v h tk Q E hP hS hq => wpAny_pure hq) ?_ ?_
  · rintro i v l' mu' oI' h7 tk7 hi hv ⟨vi, pv, last, tl, ep3, rfl, rfl, hvi, hpvl, hpv⟩ S7 Q' hT
    rw [hvp] at hi
    obtain ⟨tp, hpi⟩ := txts_at hp (i := i) (p := ps[i]) (by simp [hi])
    rw [hv] at hpi
    cases hpi
    have hdrop : ps.drop i = ps[i] :: ps.drop (i + 1) := List.drop_eq_getElem_cons hi
    rw [hdrop, cum] at hpv
    have hpl2 := hpl _ (List.getElem_mem hi)
    kspl_open mm
    rename Sx _ _ _ _ _ => S8
    refine gm_append_l (S8.get (.tail _ (.head _))) ?_
    kspl_open mm
    refine r_itemLast (S8.get (.tail _ (.head _))) ?_ (fun _ => rfl) (fun _ => rfl)
    kspl_open mm
    refine o_lenT (by omega) ?_
    intro t9 tk9
    kspl_open mm
    refine r_appendAt [(I, oI')] S8 (by rw [List.length_append, hvi.length]; simp; omega) ?_
    intro h10 S10
    kspl_open mm
    refine hT ((S10.perm (List.Perm.swap _ _ _)).sub (by kspl_open mmsub)) ⟨_, pv ++ [last], _, _, _, rfl, rfl, (IntsAre.snoc hvi), by simp [hpvl], ?_⟩
    rw [List.append_assoc, List.singleton_append]
    exact hpv
  · rintro l' mu' h7 tk7 ⟨vi, pv, last, tl, ep3, rfl, rfl, hvi, hpvl, hpv⟩ S7
    rw [hvp] at hpvl
    rw [hvp, List.drop_length, cum] at hpv
    have hal : IntsAre (vi ++ [.int last tl]) (0 :: cum 0 ps) := hpv ▸ (IntsAre.snoc hvi)
    have hall : (0 :: cum 0 ps).length = ps.length + 1 := by simp [cum_len]
    have hlast : (0 :: cum 0 ps).getD ps.length 0 = last := by rw [← hpv, ← hpvl]; simp [List.getD_eq_getElem?_getD]
    rw [hlast] at k
    generalize hgal : 0 :: cum 0 ps = al at hal hall k
    kspl_open mm
    rename Sx _ _ _ _ _ => S8
    refine r_for ?_ (fun _ => rfl)
    kspl_open mm
    refine o_lenL (S8.keep _ _ h2) (by rw [ho.1]; omega) ?_
    intro t9 tk9
    kspl_open mm
    rename Sx _ _ _ _ _ => S9
    rw [ho.1] at S9
    refine it_range R'.hh (by omega) (S9.get (.head _)) ?_
    intro I2 oI2 h10 StI2 K2
    refine (fun (g : Addr) (t1 t2 : Tok) (S10 : Sx h L ([("before", .int 0 t1), ("code", .int (128 : Nat) t2), ("raised", .ref g), ("ahead", .ref r), ("gaps", .ref a1), ("order", .ref a2), ("pieces", .ref a3)] : List (Str × Value)) [(g, lobj [] 0), (r, lobj (vi ++ [.int last tl]) ep3)] _) => ?_) _ _ _ (S9.drop (List.sublist_cons_self _ _))
    refine r_forIt K2 S10 (fun i l mu => ∃ (code : Nat) (before : Int) (u1 u2 : Tok) (out : List Value) (pre : List Int) (ep4 : Nat), l = ([("before", .int before u1), ("code", .int code u2), ("raised", .ref g), ("ahead", .ref r), ("gaps", .ref a1), ("order", .ref a2), ("pieces", .ref a3)] : List (Str × Value)) ∧ mu = [(g, lobj out ep4), (r, lobj (vi ++ [.int last tl]) ep3)] ∧ IntsAre out pre ∧ pre.length = i ∧ code ≤ 1114111 ∧ pre ++ raisedL al last code before (gl.drop i) (qs.drop i) = raisedL al last 128 0 gl qs)
      ⟨128, 0, _, _, [], [], 0, rfl, rfl, .nil, rfl, by decide, rfl⟩ (fun b hb => nomatch hb) (fun i v h tk Q E hP hS hq => wpAny_pure hq) ?_ ?_
    · rintro i v l' mu' oI' h11 tk11 hi ⟨ti, rfl⟩ ⟨code, before, u1, u2, out, pre, ep4, rfl, rfl, hout, hprel, hcode, hpre⟩ S11 Q' hT
      obtain ⟨b, tn, tp, hb1, hb2⟩ := ho.2 i qs[i] (by simp [hi])
      have hqm := hq1 _ (List.getElem_mem hi)
      obtain ⟨tg, hgi⟩ := ints_get hg (i := i) (by omega)
      have hdrop : qs.drop i = qs[i] :: qs.drop (i + 1) := List.drop_eq_getElem_cons hi
      have hdrop2 : gl.drop i = gl.getD i 0 :: gl.drop (i + 1) := by
        rw [List.drop_eq_getElem_cons (show i < gl.length by omega)]; simp [List.getD_eq_getElem?_getD, show i < gl.length by omega]
      generalize hqi : qs[i] = q at hb1 hb2 hdrop hqm
      obtain ⟨now, place⟩ := q
      dsimp only at hb2 hqm
      obtain ⟨ta, hai⟩ := ints_get hal (i := place) (by omega)
      rw [hdrop, hdrop2, raisedL] at hpre
      kspl_open mm
      rename Sx _ _ _ _ _ => S12
      refine r_itemL (S12.keep _ _ h2) rfl hb1 (by omega) ?_ (fun _ => rfl) (fun _ => rfl)
      kspl_open mm
      refine r_unpack2 R'.hh S12 (S12.keep _ _ hb2) (fun h13 S13 hk13 => ?_) rfl
      kspl_open mm
      rename Sx _ _ _ _ _ => S14
      refine gm_append_l (S14.get (.tail _ (.head _))) ?_
      kspl_open mm
      refine r_itemL (S14.keep _ _ h1) rfl hgi (by omega) ?_ (fun _ => rfl) (fun _ => rfl)
      kspl_open mm
      refine r_itemLast (S14.get (.tail _ (.tail _ (.head _)))) ?_ (fun _ => rfl) (fun _ => rfl)
      kspl_open mm
      refine r_itemL (S14.get (.tail _ (.tail _ (.head _)))) rfl hai (by omega) ?_ (fun _ => rfl) (fun _ => rfl)
      kspl_open mm
      refine r_appendAt [(I2, oI')] S14 (by rw [hout.length, hprel]; omega) ?_
      intro h15 S15
      kspl_open mm
      refine r_itemL (S15.get (.tail _ (.tail _ (.head _)))) rfl hai (by omega) ?_ (fun _ => rfl) (fun _ => rfl)
      kspl_open mm
      rename Sx _ _ _ _ _ => S16
      refine hT ((S16.perm perm1).sub (l' := ([("before", .int (al.getD place 0) _), ("code", .int (now : Nat) _), ("raised", .ref g), ("ahead", .ref r), ("gaps", .ref a1), ("order", .ref a2), ("pieces", .ref a3)] : List (Str × Value))) (by kspl_open mmsub)) ⟨now, al.getD place 0, _, _, _, pre ++ [_], ep4 + 1, rfl, rfl, (IntsAre.snoc hout), by simp [hprel], hqm.1, ?_⟩
      rw [List.append_assoc, List.singleton_append]
      exact hpre
    · rintro l' mu' h11 tk11 ⟨code, before, u1, u2, out, pre, ep4, rfl, rfl, hout, hprel, hcode, hpre⟩ S11
      rw [List.drop_length, show gl.drop qs.length = [] by rw [← hgq]; exact List.drop_length] at hpre
      kspl_open mm
      refine k g _ _ _ _ (S11.drop (mu' := [(g, lobj out ep4)]) (.cons_cons _ (List.nil_sublist _))).new ?_
      rw [← hpre]
      simp only [raisedL, List.append_nil]
      exact hout
/-- Horner -/
def hor : List (Nat × Nat) → Nat → Nat
  | [], N => N
  | (d, t) :: r, N => d + (36 - t) * hor r N
theorem hor_app (x : List (Nat × Nat)) (d t N : Nat) : hor (x ++ [(d, t)]) N = hor x (d + (36 - t) * N) := by
  induction x with
  | nil => rfl
  | cons p r ih => show p.1 + (36 - p.2) * hor (r ++ [(d, t)]) N = p.1 + (36 - p.2) * hor r _; rw [ih]
theorem find_dig : ∀ d, d < 36 → Txt.find (Str.ofString "abcdefghijklmnopqrstuvwxyz0123456789") ⟨#[dig d]⟩ = (d : Int) := by decide +kernel
/-- the reader's state: numbers to come, bias, figures of the number under way -/
def RdAt (size : Nat) (ds : List Nat) (p b : Nat) (gs : List Nat) (row : List (Nat × Nat)) : Prop :=
  (gs = [] ∧ row = [] ∧ ds = []) ∨ ∃ g r N', gs = g :: r ∧ ds = enc b row.length N' ++ encAll size (p + 1) (adF g (p == 0) (size + p + 1)) r ∧ hor row N' = g
theorem rd_start (size : Nat) (p b : Nat) (gs : List Nat) : RdAt size (encAll size p b gs) p b gs [] := by
  cases gs with
  | nil => exact .inl ⟨rfl, rfl, rfl⟩
  | cons g r => exact .inr ⟨g, r, g, rfl, rfl, rfl⟩
/-- one figure more -/
theorem rd_step {size d : Nat} {ds : List Nat} {p b : Nat} {gs : List Nat} {row : List (Nat × Nat)} (h : RdAt size (d :: ds) p b gs row) :
    ∃ g r, gs = g :: r ∧ d < 36 ∧ ((d < Tn row.length b ∧ hor (row ++ [(d, Tn row.length b)]) 0 = g ∧ ds = encAll size (p + 1) (adF g (p == 0) (size + p + 1)) r) ∨ (¬ d < Tn row.length b ∧ RdAt size ds p b gs (row ++ [(d, Tn row.length b)]))) := by
  rcases h with ⟨_, _, h⟩ | ⟨g, r, N', rfl, hds, hh⟩
  · cases h
  · refine ⟨g, r, rfl, ?_⟩
    have hlo := Tn_lo row.length b
    have hhi := Tn_hi row.length b
    by_cases hN : N' < Tn row.length b
    · rw [enc_small hN, List.singleton_append] at hds
      cases hds
      refine ⟨by omega, .inl ⟨hN, ?_, rfl⟩⟩
      rw [hor_app]; simpa using hh
    · rw [enc_big hN, List.cons_append] at hds
      have hmod := Nat.mod_lt (N' - Tn row.length b) (show 0 < 36 - Tn row.length b by omega)
      have hdiv := Nat.div_add_mod (N' - Tn row.length b) (36 - Tn row.length b)
      injection hds with h1 h2
      refine ⟨by omega, .inr ⟨by omega, .inr ⟨g, r, (N' - Tn row.length b) / (36 - Tn row.length b), rfl, ?_, ?_⟩⟩⟩
      · rw [List.length_append, List.length_singleton]; exact h2
      · rw [hor_app, ← hh, h1]
        congr 1; omega
theorem rd_end {size p b : Nat} {gs : List Nat} {row : List (Nat × Nat)} (h : RdAt size [] p b gs row) : gs = [] ∧ row = [] := by
  rcases h with ⟨h1, h2, _⟩ | ⟨g, r, N', rfl, hds, hh⟩
  · exact ⟨h1, h2⟩
  · have := congrArg List.length hds
    rw [List.length_append] at this
    have h2 := enc_ne b row.length N'
    simp at this; omega
/-- the bias, as the reader finds it -/
theorem bias_is (x v : Nat) : (v : Int) + 36 + (-1368 : Int).fdiv ((x : Int) + 38) = ((v + 36 * x / (x + 38) : Nat) : Int) := by
  rw [Int.fdiv_eq_ediv_of_nonneg _ (by omega)]
  have h1 : ((36 * x / (x + 38) : Nat) : Int) = (36 * (x : Int)) / ((x : Int) + 38) := by rw [Int.natCast_ediv, Int.natCast_mul, Int.natCast_add]; rfl
  have h2 : (36 * (x : Int)) = -1368 + 36 * ((x : Int) + 38) := by omega
  have h3 : (-1368 + 36 * ((x : Int) + 38)) / ((x : Int) + 38) = -1368 / ((x : Int) + 38) + 36 := Int.add_mul_ediv_right _ _ (by omega)
  rw [Int.natCast_add, h1, h2, h3]; omega
/-- the reader's turns -/
theorem adL_pow {S : Nat} (t : Nat) (h : 455 < S / 35 ^ t) : (adL (S / 35 ^ (t + 1))).1 = (adL (S / 35 ^ t)).1 ∧ (adL (S / 35 ^ (t + 1))).2 + 36 = (adL (S / 35 ^ t)).2 := by
  rw [adL_big h, Nat.pow_succ, ← Nat.div_div_eq_div_mul]
  exact ⟨rfl, rfl⟩
theorem octD_at {all : List Nat} {i : Nat} {c : UInt8} (e : (octD all)[i]? = some c) : ∃ d, all[i]? = some d ∧ c = (dig d).toUInt8 := by
  unfold octD at e
  rw [List.getElem?_map] at e
  obtain ⟨d, h1, h2⟩ := Option.map_eq_some_iff.mp e
  exact ⟨d, h1, h2.symm⟩
theorem dig_nat : ∀ d, d < 36 → ((dig d).toUInt8).toNat = dig d ∧ dig d ≤ 127 := by decide
theorem tn_int (j b : Nat) : max (1 : Int) (min 26 (36 * (j : Int) + 36 - (b : Int))) = (Tn j b : Nat) := by unfold Tn; omega
theorem adL_pow_all {S : Nat} : ∀ (t : Nat), (t = 0 ∨ 455 < S / 35 ^ (t - 1)) → (∀ j, j < t → 455 < S / 35 ^ j) := by
  intro t ht j hj
  rcases ht with rfl | ht
  · omega
  · have : 35 ^ j ≤ 35 ^ (t - 1) := Nat.pow_le_pow_right (by decide) (by omega)
    exact Nat.lt_of_lt_of_le ht (Nat.div_le_div_left this (Nat.pow_pos (by decide)))
theorem adL_turns {S t : Nat} (ht : t = 0 ∨ 455 < S / 35 ^ (t - 1)) (h : ¬ 455 < S / 35 ^ t) : adL S = (S / 35 ^ t, 36 * t) := by
  have key : ∀ j, j ≤ t → (adL (S / 35 ^ j)).1 = (adL S).1 ∧ (adL (S / 35 ^ j)).2 + 36 * j = (adL S).2 := by
    intro j
    induction j with
    | zero => intro _; simp
    | succ j ih =>
      intro hj
      obtain ⟨h1, h2⟩ := ih (by omega)
      obtain ⟨h3, h4⟩ := adL_pow j (adL_pow_all t ht j (by omega))
      exact ⟨h3.trans h1, by omega⟩
  obtain ⟨h1, h2⟩ := key t (Nat.le_refl _)
  rw [adL_small h] at h1 h2
  exact Prod.ext h1.symm (by omega)
theorem turns_le {S t : Nat} (hS : S < 2 ^ 100) (ht : t = 0 ∨ 455 < S / 35 ^ (t - 1)) : t ≤ 100 ∧ 35 ^ t < 2 ^ 110 := by
  rcases ht with rfl | ht
  · exact ⟨Nat.zero_le _, by decide⟩
  · cases t with
    | zero => exact ⟨Nat.zero_le _, by decide⟩
    | succ t =>
      rw [Nat.add_sub_cancel] at ht
      have h1 : 35 ^ t ≤ S := by
        apply Decidable.byContradiction
        intro hn
        rw [Nat.div_eq_of_lt (by omega)] at ht; omega
      have h2 : 2 ^ t ≤ 35 ^ t := Nat.pow_le_pow_left (by decide) t
      have h3 : t < 100 := (Nat.pow_lt_pow_iff_right (a := 2) (by decide)).mp (by omega)
      refine ⟨by omega, ?_⟩
      rw [Nat.pow_succ]
      have : (2 : Nat) ^ 110 = 2 ^ 100 * 1024 := by decide
      omega
theorem o_divN {prog : Program} {w : World} {A : Around} {E : Value → Shared → Prop} {s : Shared} {h : Heap} {tk : Nat} {a b : Nat} {bI : Int} {t u : Tok} {Q : Value → Shared → Prop} (e : bI = ((b : Nat) : Int)) (hb : 0 < b) (hs : b < 2 ^ 200) (hq : ∀ t tk', Q (.int ((a / b : Nat) : Int) t) (St s h tk')) : wpAny (model prog w) A (binaryOp .FloorDiv (.int (a : Nat) t) (.int bI u)) Q E (St s h tk) := by
  subst e
  refine floordiv_int (s := St s h tk) (by omega) (by rw [fdiv_nat]; exact hq _ _) (.inl (PyProof.noPylong_of_log2 ?_))
  rw [Int.natAbs_natCast]
  have := (Nat.log2_lt (by omega)).mpr hs
  omega
theorem o_eqLI {prog : Program} {w : World} {A : Around} {E : Value → Shared → Prop} {s : Shared} {h : Heap} {tk : Nat} {a b : Addr} {vs us : List Value} {ns ms : List Int} {e1 e2 : Nat} {Q : Value → Shared → Prop} {n : Nat} (R : Room n A) (ha : h.get? a = some (lobj vs e1)) (hb : h.get? b = some (lobj us e2)) (hi : IntsAre vs ns) (hi' : IntsAre us ms)
    (hq : Q (.bool (decide (ns = ms))) (St s h tk)) : wpAny (model prog w) A (compareOp .Eq (.ref a) (.ref b)) Q E (St s h tk) :=
  eq_intsK (s := St s h tk) (isList_lobj ha) hi (isList_lobj hb) hi' (by have := R.un; rw [cLine_is]; omega) hq
theorem o_neLI {prog : Program} {w : World} {A : Around} {E : Value → Shared → Prop} {s : Shared} {h : Heap} {tk : Nat} {a b : Addr} {vs us : List Value} {ns ms : List Int} {e1 e2 : Nat} {Q : Value → Shared → Prop} {n : Nat} (R : Room n A) (ha : h.get? a = some (lobj vs e1)) (hb : h.get? b = some (lobj us e2)) (hi : IntsAre vs ns) (hi' : IntsAre us ms)
    (hq : Q (.bool (!decide (ns = ms))) (St s h tk)) : wpAny (model prog w) A (compareOp .NotEq (.ref a) (.ref b)) Q E (St s h tk) :=
  ne_intsK (s := St s h tk) (isList_lobj ha) hi (isList_lobj hb) hi' (by have := R.un; rw [cLine_is]; omega) hq
set_option maxHeartbeats 8000000 in
theorem numbers_spec {w : World} {A : Around} {s : Shared} {h : Heap} {tk : Nat} {mean : ExcName → Option Value} {mg mb : Str → Option Value} {n : Nat} {size : Nat} {gs : List Nat} {t1 t2 : Tok} {Q E : Value → Shared → Prop}
   (X : (hd.heap_39 w.params).In h) (T : TopM mean mg mb h) (R : Room (n + 1) A) (hgs : gs.length ≤ 1000) (hg : ∀ g ∈ gs, g < 10 ^ 20) (hsize : size ≤ 10000)
   (k : ∀ D ep out h' tk, New h [(D, lobj out ep)] h' → IntsAre out (natL gs) → Q (.ref D) (St s h' tk)) :
   wpAny (model Pr w) A (call (.ref 136) [.bytes (octD (encAll size 0 72 gs)).toArray t1, .int (size : Nat) t2]) Q E (St s h tk) := by
  have hall0 := encAll_len size gs 0 72 hg
  generalize hall : encAll size 0 72 gs = all at hall0
  refine enter [("octets", .bytes (octD all).toArray t1), ("size", .int (size : Nat) t2)] X T R (by k_is) (by k_is) rfl (locs rfl) rfl ?_ rfl rfl rfl (by decide)
  intro L h₁ tk₁ S R'
  kspl_open mm
  rename Sx _ _ _ _ _ => S2
  refine r_for ?_ (fun _ => rfl)
  kspl_open mm
  refine it_bytes R'.hh ?_
  intro I oI h4 StI K
  have hlo : (octD all).length = all.length := by unfold octD; rw [List.length_map]
  refine (fun (rw0 nm : Addr) (u0 : Tok) (S3 : Sx h L ([("row", .ref rw0), ("bias", .int (72 : Nat) u0), ("numbers", .ref nm), ("octets", .bytes (octD all).toArray t1), ("size", .int (size : Nat) t2)] : List (Str × Value)) [(rw0, lobj [] 0), (nm, lobj [] 0)] _) => ?_) _ _ _ S2
  refine r_forIt K S3 (fun i l mu => ∃ (rw : Addr) (b : Nat) (done gsr : List Nat) (row : List (Nat × Nat)) (vr vn : List Value) (er en : Nat) (tups : List (Addr × Obj)) (u1 : Tok), l = ([("row", .ref rw), ("bias", .int b u1), ("numbers", .ref nm), ("octets", .bytes (octD all).toArray t1), ("size", .int (size : Nat) t2)] : List (Str × Value)) ∧ mu = (rw, lobj vr er) :: (nm, lobj vn en) :: tups ∧ PairsIn tups vr row ∧ IntsAre vn (natL done) ∧ done ++ gsr = gs ∧ RdAt size (all.drop i) done.length b gsr row ∧ row.length ≤ i ∧ ∀ p ∈ row, p.2 ≤ 26)
    ⟨rw0, 72, [], gs, [], [], [], 0, 0, [], u0, rfl, rfl, ⟨rfl, fun i p e => by cases e⟩, .nil, rfl, by rw [← hall]; exact rd_start _ _ _ _, Nat.le_refl _, fun p hp => nomatch hp⟩ (fun b hb => nomatch hb) (fun i v h tk Q E hP hS hq => wpAny_pure hq) ?_ ?_
  · rintro i v l' mu' oI' h7 tk7 hi ⟨c, uc, hc, rfl⟩ ⟨rw, b, done, gsr, row, vr, vn, er, en, tups, u1, rfl, rfl, hpr, hvn, hdg, hrd, hrl, hr26⟩ S7 Q' hT
    rw [hlo] at hi
    obtain ⟨d, hd, rfl⟩ := octD_at hc
    have hdrop : all.drop i = d :: all.drop (i + 1) := by
      rw [List.drop_eq_getElem_cons hi]; congr 1
      rw [List.getElem?_eq_getElem hi] at hd; exact Option.some.inj hd
    rw [hdrop] at hrd
    obtain ⟨g, r, rfl, hd36, hcase⟩ := rd_step hrd
    obtain ⟨hdn, hdn2⟩ := dig_nat d hd36
    have hdone : done.length < 1000 := by
      have := congrArg List.length hdg; simp at this; omega
    have hg20 : g < 10 ^ 20 := hg g (by rw [← hdg]; simp)
    kspl_open mm
    rename Sx _ _ _ _ _ => S8
    refine o_chr (c := dig d) (by rw [hdn]) (by omega) ?_
    intro t9 tk9
    kspl_open mm
    refine o_find (find_dig d hd36) ?_
    intro t10 tk10
    kspl_open mm
    rename Sx _ _ _ _ _ => S11
    refine o_lenL (S11.get (.tail _ (.head _))) (by rw [hpr.1]; omega) ?_
    intro t12 tk12
    rw [hpr.1]
    kspl_open mm
    refine o_min2 R'.hh S11 ?_
    intro t13 h13 tk13 S13
    kspl_open mm
    refine o_max2 R'.hh S13 ?_
    intro t14 h14 tk14 S14
    rw [tn_int]
    kspl_open mm
    rename Sx _ _ _ _ _ => S15
    refine gm_append_l (S15.get (.tail _ (.head _))) ?_
    kspl_open mm
    rename_i tp h16 S17
    refine r_appendAt [(tp, tobj [.int (d : Nat) t10, .int (Tn row.length b : Nat) t14]), (I, oI')] S17 (by rw [hpr.1]; omega) ?_
    intro h18 S18
    replace S18 : Sx h L _ ((tp, tobj [.int (d : Nat) t10, .int (Tn row.length b : Nat) t14]) :: (I, oI') :: (rw, lobj (vr ++ [.ref tp]) (er + 1)) :: (nm, lobj vn en) :: tups) h18 := S18
    have S19 := S18.perm (List.perm_middle (l₁ := [(I, oI'), (rw, lobj (vr ++ [.ref tp]) (er + 1)), (nm, lobj vn en)]) (l₂ := tups)).symm.symm
    have hpr2 := hpr.snoc (a := tp) (c := d) (i := Tn row.length b) (t := t10) (u := t14)
    have hr26b : ∀ p ∈ row ++ [(d, Tn row.length b)], p.2 ≤ 26 := by
      intro p hp
      rcases List.mem_append.mp hp with hp | hp
      · exact hr26 p hp
      · rw [List.mem_singleton.mp hp]; exact Tn_hi _ _
    kspl_open mm
    · rename_i hlt
      obtain ⟨hlt', hhor, hrest⟩ := hcase.resolve_right (fun hx => hx.1 (by omega))
      rename Sx _ _ _ _ _ => S20
      have hmem : ∀ q ∈ (tp, tobj [.int (d : Nat) t10, .int (Tn row.length b : Nat) t14]) :: tups, q ∈ (I, oI') :: (rw, lobj (vr ++ [.ref tp]) (er + 1)) :: (nm, lobj vn en) :: (tp, tobj [.int (d : Nat) t10, .int (Tn row.length b : Nat) t14]) :: tups := fun q hq => .tail _ (.tail _ (.tail _ hq))
      generalize htl : (tp, tobj [.int (d : Nat) t10, .int (Tn row.length b : Nat) t14]) :: tups = tl at S20 hpr2 hmem
      generalize hrowe : row ++ [(d, Tn row.length b)] = row2 at hhor hpr2 hr26b
      generalize hvre : vr ++ [.ref tp] = vr2 at S20 hpr2 hmem
      have hrow2 : row2.length ≤ i + 1 := by rw [← hrowe]; simp; omega
      refine r_for ?_ (fun _ => rfl)
      kspl_open mm
      refine r_rev S20 (S20.get (.tail _ (.head _))) (by rw [hpr2.1]; omega) ?_ (fun _ => rfl) (fun _ => rfl)
      intro D2 h21 S21
      kspl_open mm
      refine it_listT R'.hh (S21.get (.head _)) ?_
      intro I2 oI2 h22 StI2 K2 hst2
      have hvl2 : vr2.reverse.length = row2.length := by rw [List.length_reverse, hpr2.1]
      refine (fun (t23 : Tok) (S22 : Sx h L ([("number", .int (0 : Nat) t23), ("numbers", .ref nm), ("octets", .bytes (octD all).toArray t1), ("size", .int (size : Nat) t2)] : List (Str × Value)) ((D2, lobj vr2.reverse 0) :: (I, oI') :: (rw, lobj vr2 (er + 1)) :: (nm, lobj vn en) :: tl) _) => ?_) _ (S21.sub (by kspl_open mmsub))
      refine r_forIt K2 S22 (fun j l mu => ∃ (N : Nat) (tN : Tok), l = ([("number", .int (N : Nat) tN), ("numbers", .ref nm), ("octets", .bytes (octD all).toArray t1), ("size", .int (size : Nat) t2)] : List (Str × Value)) ∧ mu = (D2, lobj vr2.reverse 0) :: (I, oI') :: (rw, lobj vr2 (er + 1)) :: (nm, lobj vn en) :: tl ∧ N = hor (row2.drop (row2.length - j)) 0)
        ⟨0, t23, rfl, rfl, by rw [Nat.sub_zero, List.drop_length]; rfl⟩ (fun b hb => ⟨lobj vr2.reverse 0, fun i l' mu' h' hJ S' => by obtain ⟨N, tN, rfl, rfl, _⟩ := hJ; rw [List.mem_singleton.mp hb]; exact S'.get (.head _)⟩) (fun i v h tk Q E hP hS hq => ?_) ?_ ?_
      · have hil : i < row2.length := by rw [← hvl2]; exact (List.getElem?_eq_some_iff.mp hP).1
        rw [List.getElem?_reverse (by rw [hpr2.1]; exact hil)] at hP
        obtain ⟨ta, u1', u2', e1, e2⟩ := hpr2.2 (row2.length - 1 - i) row2[row2.length - 1 - i] (List.getElem?_eq_getElem (by omega))
        rw [hpr2.1, e1] at hP
        cases hP
        exact wpAny_letOwnedTupleGo_listiter (s := St _ h tk) (hst2 _ _ hS) hq
      · rintro j v l' mu' oI3 h24 tk24 hj hv ⟨N, tN, rfl, rfl, hN⟩ S24 Q2 hT2
        rw [hvl2] at hj
        rw [List.getElem?_reverse (by rw [hpr2.1]; exact hj)] at hv
        obtain ⟨ta, u1', u2', e1, e2⟩ := hpr2.2 (row2.length - 1 - j) row2[row2.length - 1 - j] (List.getElem?_eq_getElem (by omega))
        rw [hpr2.1, e1] at hv
        cases hv
        have h26 := hr26b _ (List.getElem_mem (show row2.length - 1 - j < row2.length by omega))
        have hdr : row2.drop (row2.length - (j + 1)) = row2[row2.length - 1 - j] :: row2.drop (row2.length - j) := by
          rw [show row2.length - (j + 1) = row2.length - 1 - j by omega, List.drop_eq_getElem_cons (show row2.length - 1 - j < row2.length by omega), show row2.length - 1 - j + 1 = row2.length - j by omega]
        generalize row2[row2.length - 1 - j] = q at e2 h26 hdr
        obtain ⟨pt, bd⟩ := q
        dsimp only at e2 h26
        refine r_unpack2 R'.hh S24 (S24.get (.tail _ (.tail _ (hmem _ e2)))) (fun h25 S25 hk25 => ?_) rfl
        kspl_open mm
        rename Sx _ _ _ _ _ => S26
        have eN : ((pt : Int) + (36 - (bd : Int)) * (N : Int)) = ((pt + (36 - bd) * N : Nat) : Int) := by
          rw [Int.natCast_add, Int.natCast_mul, show ((36 - bd : Nat) : Int) = 36 - (bd : Int) by omega]
        rw [eN] at S26
        refine hT2 ((S26.perm perm1).sub (l' := ([("number", .int (pt + (36 - bd) * N : Nat) _), ("numbers", .ref nm), ("octets", .bytes (octD all).toArray t1), ("size", .int (size : Nat) t2)] : List (Str × Value))) (by kspl_open mmsub)) ⟨_, _, rfl, rfl, ?_⟩
        rw [hdr, hN]; rfl
      · rintro l' mu' h24 tk24 ⟨N, tN, rfl, rfl, hN⟩ S24
        rw [hvl2, Nat.sub_self, List.drop_zero, hhor] at hN
        subst hN
        have hvnl := natL_length hvn
        kspl_open mm
        refine gm_append_l (S24.get (.tail _ (.tail _ (.tail _ (.head _))))) ?_
        kspl_open mm
        refine r_appendAt [(D2, lobj vr2.reverse 0), (I, oI'), (rw, lobj vr2 (er + 1))] S24 (by omega) ?_
        intro h25 S25
        replace S25 : Sx h L _ ((D2, lobj vr2.reverse 0) :: (I, oI') :: (rw, lobj vr2 (er + 1)) :: (nm, lobj (vn ++ [Value.int (N : Nat) tN]) (en + 1)) :: tl) h25 := S25
        have hvn2 : IntsAre (vn ++ [Value.int (N : Nat) tN]) (natL (done ++ [N])) := by unfold natL; rw [List.map_append]; exact IntsAre.snoc hvn
        have hvl3 : (vn ++ [Value.int (N : Nat) tN]).length = done.length + 1 := by simp [hvnl]
        generalize vn ++ [Value.int (N : Nat) tN] = vn2 at S25 hvn2 hvl3
        generalize hsh : (if (done.length == 0) = true then N / 700 else N / 2) = sh
        have hsh2 : sh ≤ N := by rw [← hsh]; split <;> exact Nat.div_le_self _ _
        have ead : adS N (done.length == 0) (size + done.length + 1) = sh + sh / (size + done.length + 1) := by unfold adS; rw [hsh]
        have hS100 : adS N (done.length == 0) (size + done.length + 1) < 2 ^ 100 := by
          have := Nat.div_le_self sh (size + done.length + 1)
          have e20 : (10 : Nat) ^ 20 = 100000000000000000000 := by decide
          have e100 : (2 : Nat) ^ 100 = 1267650600228229401496703205376 := by decide
          omega
        generalize hSn : adS N (done.length == 0) (size + done.length + 1) = Sn at ead hS100
        refine r_fall (r_cons ?_)
        refine wpAny_Assign_Name ?_ (by exact rfl)
        refine wpAny_mono (Q := fun v s' => ∃ t tk', v = .int (sh : Nat) t ∧ s' = St s h25 tk') (E := fun _ _ => False) ?_ ?_ (fun _ _ e => e)
        · kspl_open mm
          refine o_lenL (S25.get (.tail _ (.tail _ (.tail _ (.head _))))) (by omega) ?_
          intro t26 tk26
          rw [hvl3]
          kspl_open mm
          · rename_i hc1
            exact ⟨_, _, by rw [← hsh, if_pos (by rw [beq_iff_eq]; omega)]; exact congrArg (Value.int · _) (fdiv_nat N 700), rfl⟩
          · rename_i hc1
            exact ⟨_, _, by rw [← hsh, if_neg (by rw [beq_iff_eq]; omega)]; exact congrArg (Value.int · _) (fdiv_nat N 2), rfl⟩
        rintro v s' ⟨t27, tk27, rfl, rfl⟩
        kspl_open mm
        rename Sx _ _ _ _ _ => S28
        refine o_lenL (S28.get (.tail _ (.tail _ (.tail _ (.head _))))) (by omega) ?_
        intro t29 tk29
        rw [hvl3]
        kspl_open mm
        rename Sx _ _ _ _ _ => S30
        rw [show ((size : Int) + ((done.length + 1 : Nat) : Int)) = ((size + done.length + 1 : Nat) : Int) by omega, fdiv_nat, show ((sh : Int) + ((sh / (size + done.length + 1) : Nat) : Int)) = ((Sn : Nat) : Int) by rw [ead]; omega] at S30
        refine r_while (fun n' s' => ∃ (t : Nat) (u1 u2 : Tok) (h' : Heap) (tk' : Nat), s' = St s h' tk' ∧ Sn / 35 ^ t = n' ∧ (t = 0 ∨ 455 < Sn / 35 ^ (t - 1)) ∧ Sx h L ([("turns", .int (t : Nat) u1), ("share", .int (Sn : Nat) u2), ("numbers", .ref nm), ("octets", .bytes (octD all).toArray t1), ("size", .int (size : Nat) t2)] : List (Str × Value)) ((D2, lobj vr2.reverse 0) :: (I, oI') :: (rw, lobj vr2 (er + 1)) :: (nm, lobj vn2 (en + 1)) :: tl) h') (Sn / 35 ^ 0) ⟨0, _, _, _, _, rfl, rfl, .inl rfl, S30.sub (by kspl_open mmsub)⟩ ?_
        rintro n' s' ⟨t, u3, u4, h31, tk31, rfl, rfl, ht, S31⟩ Q3 hT3 hR3
        obtain ⟨ht1, ht2⟩ := turns_le hS100 ht
        have e35 : (35 : Int) ^ t = ((35 ^ t : Nat) : Int) := by rw [Int.natCast_pow]; rfl
        have hp35 : 0 < 35 ^ t := Nat.pow_pos (by decide)
        have h1000 : 35 ^ t < 2 ^ 200 := Nat.lt_trans ht2 (by decide)
        kspl_open mm
        refine o_pow (n := t) (by decide) (by decide) rfl (by omega) ?_
        intro t32 tk32
        refine o_divN e35 hp35 h1000 ?_
        intro t33 tk33
        kspl_open mm
        · rename Sx _ _ _ _ _ => S34
          rename _ < _ => hc2
          rw [show ((t : Int) + 1) = ((t + 1 : Nat) : Int) by omega] at S34
          refine hT3 (Sn / 35 ^ (t + 1)) _ ?_ ⟨t + 1, _, _, _, _, rfl, rfl, .inr (by rw [Nat.add_sub_cancel]; omega), S34.sub (by kspl_open mmsub)⟩
          rw [Nat.pow_succ, ← Nat.div_div_eq_div_mul]
          exact Nat.div_lt_self (by omega) (by decide)
        · have hc2 : ¬ 455 < Sn / 35 ^ t := by omega
          refine o_pow (n := t) (by decide) (by decide) rfl (by omega) ?_
          intro t34 tk34
          refine o_divN e35 hp35 h1000 ?_
          intro t35 tk35
          have eb : 36 * (t : Int) + 36 + (-1368 : Int).fdiv (((Sn / 35 ^ t : Nat) : Int) + 38) = ((adF N (done.length == 0) (size + done.length + 1) : Nat) : Int) := by
            unfold adF
            rw [hSn, adL_turns ht hc2, ← bias_is, Int.natCast_mul]; rfl
          generalize Sn / 35 ^ t = xq at eb hc2
          kspl_open mm
          rename Sx _ _ _ _ _ => S36
          rw [eb] at S36
          refine (fun (rw' : Addr) (S37 : Sx h L ([("row", .ref rw'), ("bias", .int (adF N (done.length == 0) (size + done.length + 1) : Nat) _), ("numbers", .ref nm), ("octets", .bytes (octD all).toArray t1), ("size", .int (size : Nat) t2)] : List (Str × Value)) [(rw', lobj [] 0), (I, oI'), (nm, lobj vn2 (en + 1))] _) => ?_) _ ((S36.sub (by kspl_open mmsub)).drop (.cons_cons _ (.cons _ (.cons_cons _ (.cons _ (.cons_cons _ (List.nil_sublist _)))))))
          refine hT (mu := [(rw', lobj [] 0), (nm, lobj vn2 (en + 1))]) (S37.perm (.cons _ (.swap _ _ _))) ⟨rw', _, done ++ [N], r, [], [], vn2, 0, en + 1, [], _, rfl, rfl, ⟨rfl, fun i p e => by cases e⟩, hvn2, by rw [List.append_assoc]; exact hdg, ?_, Nat.zero_le _, fun p hp => nomatch hp⟩
          rw [hrest, List.length_append]
          exact rd_start _ _ _ _
    · rename_i hlt
      rcases hcase with ⟨hlt', hhor, hrest⟩ | ⟨hlt', hrd2⟩
      · exfalso; omega
      refine hT ((S19.perm perm1).sub (by kspl_open mmsub)) ⟨rw, b, done, g :: r, row ++ [(d, Tn row.length b)], _, vn, _, en, _, u1, rfl, rfl, hpr2, hvn, hdg, hrd2, by simp; omega, hr26b⟩
  · rintro l' mu' h7 tk7 ⟨rw, b, done, gsr, row, vr, vn, er, en, tups, u1, rfl, rfl, hpr, hvn, hdg, hrd, hrl, hr26⟩ S7
    rw [hlo, List.drop_length] at hrd
    obtain ⟨rfl, rfl⟩ := rd_end hrd
    rw [List.append_nil] at hdg
    subst hdg
    have hvr : vr = [] := List.length_eq_zero_iff.mp hpr.1
    subst hvr
    kspl_open mm
    rename Sx _ _ _ _ _ => S8
    refine o_eqLI R' (S8.get (.tail _ (.head _))) (S8.get (.head _)) .nil .nil ?_
    rw [decide_eq_true (rfl : ([] : List Int) = [])]
    kspl_open mm
    exact k nm _ _ _ _ (S8.drop (mu' := [(nm, lobj vn en)]) (.cons _ (.cons _ (.cons_cons _ (List.nil_sublist _))))).new hvn
/-- the signs that are not still to come -/
def part (cs : List Nat) (qs : List (Nat × Nat)) : List Nat := (cs.zipIdx.filter fun p => !(qs.contains p)).map (·.1)
structure Rest (cs : List Nat) (qs : List (Nat × Nat)) : Prop where
  sub : ∀ p ∈ qs, p ∈ ordP cs
  pw : qs.Pairwise (fun p q => pkey p < pkey q)
  old : ∀ p ∈ ordP cs, p ∈ qs ∨ ∀ q ∈ qs, pkey p < pkey q
theorem Rest.tail {cs q r} (h : Rest cs (q :: r)) : Rest cs r := by
  have hp := List.pairwise_cons.mp h.pw
  refine ⟨fun p hp => h.sub p (.tail _ hp), hp.2, fun p hm => ?_⟩
  rcases h.old p hm with hx | hx
  · rcases List.mem_cons.mp hx with rfl | hx
    · exact .inr hp.1
    · exact .inl hx
  · exact .inr fun q hq => hx q (.tail _ hq)
theorem zip_filter (f : Nat → Bool) (g : Nat × Nat → Bool) : ∀ (l : List Nat) (n : Nat), (∀ p ∈ l.zipIdx n, g p = f p.1) → ((l.zipIdx n).filter g).length = (l.filter f).length
  | [], _, _ => rfl
  | c :: l, n, h => by
    have ih := zip_filter f g l (n + 1) fun p hp => h p (by rw [List.zipIdx_cons]; exact .tail _ hp)
    have h1 := h (c, n) (by rw [List.zipIdx_cons]; exact .head _)
    rw [List.zipIdx_cons, List.filter_cons, List.filter_cons, h1]
    split
    · rw [List.length_cons, List.length_cons, ih]
    · exact ih
theorem part_step {cs : List Nat} {q : Nat × Nat} {r : List (Nat × Nat)} (hl : cs.length < 1000) (h : Rest cs (q :: r)) :
    aheadN cs q.1 q.2 ≤ (part cs (q :: r)).length ∧ part cs r = (part cs (q :: r)).take (aheadN cs q.1 q.2) ++ q.1 :: (part cs (q :: r)).drop (aheadN cs q.1 q.2) := by
  obtain ⟨c, i⟩ := q
  have hq := ordP_mem.mp (h.sub _ (.head _))
  dsimp only at hq ⊢
  obtain ⟨hi, hc⟩ := List.getElem?_eq_some_iff.mp hq.1
  have hsplit : cs = cs.take i ++ c :: cs.drop (i + 1) := by
    rw [← hc, List.getElem_cons_drop, List.take_append_drop]
  have hzip : cs.zipIdx = (cs.take i).zipIdx ++ (c, i) :: (cs.drop (i + 1)).zipIdx (i + 1) := by
    conv => lhs; rw [hsplit]
    rw [List.zipIdx_append, List.zipIdx_cons]
    simp [Nat.min_eq_left (Nat.le_of_lt hi)]
  have hnr : (c, i) ∉ r := fun hm => absurd ((List.pairwise_cons.mp h.pw).1 _ hm) (Nat.lt_irrefl _)
  have hA : ∀ p ∈ (cs.take i).zipIdx, p ∈ cs.zipIdx ∧ p.2 < i := by
    intro p hp
    refine ⟨by rw [hzip]; exact List.mem_append_left _ hp, ?_⟩
    have := List.mem_zipIdx_iff_getElem?.mp hp
    have := (List.getElem?_eq_some_iff.mp this).1
    simp at this; omega
  have hB : ∀ p ∈ (cs.drop (i + 1)).zipIdx (i + 1), p.2 ≠ i := by
    intro p hp
    have := List.le_snd_of_mem_zipIdx hp
    omega
  have hf : ∀ p : Nat × Nat, p.2 ≠ i → (!((c, i) :: r).contains p) = !r.contains p := by
    intro p hp
    have : (p == (c, i)) = false := by
      rw [beq_eq_false_iff_ne]; intro e; rw [e] at hp; exact hp rfl
    rw [List.contains_cons, this, Bool.false_or]
  have hfA : (cs.take i).zipIdx.filter (fun p => !((c, i) :: r).contains p) = (cs.take i).zipIdx.filter (fun p => !r.contains p) :=
    List.filter_congr fun p hp => hf p (by have := (hA p hp).2; omega)
  have hfB : ((cs.drop (i + 1)).zipIdx (i + 1)).filter (fun p => !((c, i) :: r).contains p) = ((cs.drop (i + 1)).zipIdx (i + 1)).filter (fun p => !r.contains p) :=
    List.filter_congr fun p hp => hf p (hB p hp)
  have hlen : ((cs.take i).zipIdx.filter (fun p => !((c, i) :: r).contains p)).length = aheadN cs c i := by
    refine zip_filter (fun d => decide (d ≤ c)) _ _ 0 fun p hp => ?_
    obtain ⟨hp1, hp2⟩ := hA p hp
    have hp3 := List.mem_zipIdx_iff_getElem?.mp hp1
    rw [Bool.eq_iff_iff]
    simp only [Bool.not_eq_true', decide_eq_true_eq]
    rw [← Bool.not_eq_true, List.contains_iff_mem]
    constructor
    · intro hn
      rcases Nat.lt_or_ge c p.1 with hlt | hge
      · exfalso
        have hm : p ∈ ordP cs := ordP_mem.mpr ⟨hp3, by omega⟩
        rcases h.old p hm with hx | hx
        · exact hn hx
        · have := hx (c, i) (.head _)
          simp only [pkey] at this; omega
      · exact hge
    · intro hle hm
      rcases List.mem_cons.mp hm with rfl | hm
      · exact absurd hp2 (Nat.lt_irrefl _)
      · have := (List.pairwise_cons.mp h.pw).1 _ hm
        simp only [pkey] at this; omega
  have e1 : part cs ((c, i) :: r) = ((cs.take i).zipIdx.filter (fun p => !((c, i) :: r).contains p)).map (·.1) ++ (((cs.drop (i + 1)).zipIdx (i + 1)).filter (fun p => !r.contains p)).map (·.1) := by
    unfold part
    rw [hzip, List.filter_append, List.filter_cons_of_neg (by simp), hfB, List.map_append]
  have e2 : part cs r = ((cs.take i).zipIdx.filter (fun p => !((c, i) :: r).contains p)).map (·.1) ++ c :: (((cs.drop (i + 1)).zipIdx (i + 1)).filter (fun p => !r.contains p)).map (·.1) := by
    unfold part
    rw [hzip, List.filter_append, List.filter_cons_of_pos (by simpa using hnr), hfA, List.map_append]; rfl
  have hlen2 : (((cs.take i).zipIdx.filter (fun p => !((c, i) :: r).contains p)).map (·.1)).length = aheadN cs c i := by rw [List.length_map, hlen]
  rw [e1, e2]
  generalize ((cs.take i).zipIdx.filter (fun p => !((c, i) :: r).contains p)).map (·.1) = X at hlen2
  rw [← hlen2]
  simp
theorem part_nil (cs : List Nat) : part cs [] = cs := by
  unfold part
  rw [List.filter_eq_self.mpr (by simp)]
  exact List.zipIdx_map_fst 0 cs
theorem ahead_mono {cs : List Nat} {c i j : Nat} (hij : i < j) (hi : cs[i]? = some c) : aheadN cs c i + 1 ≤ aheadN cs c j := by
  obtain ⟨hl, hc⟩ := List.getElem?_eq_some_iff.mp hi
  unfold aheadN
  have h1 : cs.take (i + 1) = cs.take i ++ [c] := by rw [List.take_succ_eq_append_getElem hl, hc]
  have h2 : (cs.take (i + 1)).Sublist (cs.take j) := by
    have : (cs.take (i + 1)) = (cs.take j).take (i + 1) := by rw [List.take_take, Nat.min_eq_left hij]
    rw [this]; exact List.take_sublist _ _
  have h3 := (h2.filter (fun d => decide (d ≤ c))).length_le
  rw [h1, List.filter_append] at h3
  simpa using h3
theorem ins_main (cs : List Nat) (hl : cs.length < 1000) (hc : ∀ c ∈ cs, c ≤ 1114111) (bare : Nat) : ∀ (qs : List (Nat × Nat)) (k code behind : Nat), Rest cs qs →
    (part cs qs).length = bare + k → (∀ p ∈ qs, code ≤ p.1) → behind ≤ bare + k → (∀ p ∈ qs, p.1 = code → behind ≤ aheadN cs p.1 p.2) → 
    ∃ gs : List Nat, natL gs = gapsL cs bare k code behind qs ∧ gs.length = qs.length ∧ (∀ g ∈ gs, g < 10 ^ 20) ∧ insOk gs code behind (part cs qs) ∧ insL gs code behind (part cs qs) = cs
  | [], k, code, behind, _, _, _, _, _ => ⟨[], rfl, rfl, (fun g h => nomatch h), trivial, part_nil cs⟩
  | (now, place) :: r, k, code, behind, hR, hlen, hcode, hb, hbe => by
    obtain ⟨ha, hstep⟩ := part_step hl hR
    dsimp only at ha hstep
    have hq := ordP_mem.mp (hR.sub _ (.head _))
    have hnow : now ≤ 1114111 := hc _ (List.mem_of_getElem? hq.1)
    have hcn : code ≤ now := hcode _ (.head _)
    have hge : (behind : Int) ≤ ((now : Int) - (code : Int)) * ((bare : Int) + (k : Int) + 1) + (aheadN cs now place : Int) := by
      by_cases e : now = code
      · have := hbe _ (.head _) e
        dsimp only at this
        subst e
        simp; omega
      · obtain ⟨d, hd⟩ : ∃ d : Nat, now = code + 1 + d := ⟨now - code - 1, by omega⟩
        subst hd
        rw [show (((code + 1 + d : Nat) : Int) - (code : Int)) = 1 + (d : Int) by omega, Int.add_mul]
        have : 0 ≤ (d : Int) * ((bare : Int) + (k : Int) + 1) := Int.mul_nonneg (by omega) (by omega)
        omega
    have hpl : bare + k + 1 ≤ 1000 := by
      have h1 : (part cs ((now, place) :: r)).length ≤ cs.length := by
        unfold part
        rw [List.length_map]
        refine Nat.le_trans (List.length_filter_le _ _) ?_
        simp
      omega
    obtain ⟨d, hd⟩ : ∃ d : Nat, now = code + d := ⟨now - code, by omega⟩
    have hmul : (((now : Int) - (code : Int)) * ((bare : Int) + (k : Int) + 1)) = ((d * (bare + k + 1) : Nat) : Int) := by
      rw [hd]; push_cast; rw [show ((code : Int) + (d : Int) - (code : Int)) = (d : Int) by omega]
    have hR' := hR.tail
    obtain ⟨gs, h1, h2, h3, h4, h5⟩ := ins_main cs hl hc bare r (k + 1) now (aheadN cs now place + 1) hR' (by
        rw [hstep]; simp only [List.length_append, List.length_take, List.length_cons, List.length_drop]; omega) (fun p hp => by
        have h1 := (List.pairwise_cons.mp hR.pw).1 _ hp
        have h2 := ordP_mem.mp (hR'.sub _ hp)
        have h3 := (List.getElem?_eq_some_iff.mp h2.1).1
        have h4 := (List.getElem?_eq_some_iff.mp hq.1).1
        simp only [pkey] at h1
        dsimp only at h4
        omega) (by omega) (fun p hp e => by
        have h1 := (List.pairwise_cons.mp hR.pw).1 _ hp
        simp only [pkey] at h1
        rw [e]
        exact ahead_mono (by omega) hq.1)
    rw [hmul] at hge
    have hge2 : behind ≤ d * (bare + k + 1) + aheadN cs now place := by omega
    have hdm : d * (bare + k + 1) ≤ 1114111 * 1000 := Nat.mul_le_mul (by omega) hpl
    refine ⟨(d * (bare + k + 1) + aheadN cs now place - behind) :: gs, ?_, by simp [h2], ?_, ?_, ?_⟩
    · rw [gapsL, ← h1, hmul]
      unfold natL
      rw [List.map_cons]
      congr 1
      omega
    · intro g hg
      rcases List.mem_cons.mp hg with rfl | hg
      · have : (10 : Nat) ^ 20 = 100000000000000000000 := by decide
        omega
      · exact h3 g hg
    all_goals
      have e0 : behind + (d * (bare + k + 1) + aheadN cs now place - behind) = aheadN cs now place + (bare + k + 1) * d := by rw [Nat.mul_comm (bare + k + 1) d]; omega
      have e1 : (behind + (d * (bare + k + 1) + aheadN cs now place - behind)) / ((part cs ((now, place) :: r)).length + 1) = d := by
        rw [e0, hlen, Nat.add_mul_div_left _ _ (by omega), Nat.div_eq_of_lt (by omega), Nat.zero_add]
      have e2 : (behind + (d * (bare + k + 1) + aheadN cs now place - behind)) % ((part cs ((now, place) :: r)).length + 1) = aheadN cs now place := by
        rw [e0, hlen, Nat.add_mul_mod_self_left, Nat.mod_eq_of_lt (by omega)]
    · rw [insOk, e1, e2, ← hd, ← hstep]
      exact ⟨hnow, h4⟩
    · rw [insL, e1, e2, ← hd, ← hstep]
      exact h5
theorem part_all {cs : List Nat} {qs : List (Nat × Nat)} (hp : qs.Perm (ordP cs)) : part cs qs = cs.filter fun c => decide (c < 128) := by
  unfold part
  have : cs.zipIdx.filter (fun p => !(qs.contains p)) = cs.zipIdx.filter (fun p => decide (p.1 < 128)) := by
    apply List.filter_congr
    intro p hm
    rw [Bool.eq_iff_iff]
    simp only [Bool.not_eq_true', decide_eq_true_eq]
    rw [← Bool.not_eq_true, List.contains_iff_mem, hp.mem_iff, ordP_mem]
    have := List.mem_zipIdx_iff_getElem?.mp hm
    constructor
    · intro hn
      rcases Nat.lt_or_ge p.1 128 with h | h
      · exact h
      · exact absurd ⟨this, by omega⟩ hn
    · rintro h ⟨_, h2⟩; omega
  rw [this]
  have : ∀ (l : List Nat) (n : Nat), ((l.zipIdx n).filter (fun p => decide (p.1 < 128))).map (·.1) = l.filter fun c => decide (c < 128) := by
    intro l
    induction l with
    | nil => intro n; rfl
    | cons c l ih =>
      intro n
      rw [List.zipIdx_cons, List.filter_cons, List.filter_cons]
      dsimp only
      split
      · rw [List.map_cons, ih]
      · exact ih _
  exact this cs 0
theorem ordP_len (cs : List Nat) : (cs.filter fun c => decide (c < 128)).length + (ordP cs).length = cs.length := by
  have : ∀ (l : List Nat) (n : Nat), (l.filter fun c => decide (c < 128)).length + ((l.zipIdx n).filter fun p => decide (127 < p.1)).length = l.length := by
    intro l
    induction l with
    | nil => intro n; rfl
    | cons c l ih =>
      intro n
      have := ih (n + 1)
      rw [List.zipIdx_cons, List.filter_cons, List.filter_cons, List.length_cons]
      dsimp only
      by_cases h : c < 128
      · rw [if_pos (by simpa using h), if_neg (by simp; omega), List.length_cons]; omega
      · rw [if_neg (by simpa using h), if_pos (by simp; omega), List.length_cons]; omega
  exact this cs 0
/-- the numbers of a text build it -/
theorem text_law {cs : List Nat} {qs : List (Nat × Nat)} (hl : cs.length < 1000) (hc : ∀ c ∈ cs, c ≤ 1114111) (hp : qs.Perm (ordP cs)) (hpw : qs.Pairwise (fun p q => pkey p < pkey q)) :
    ∃ gs : List Nat, natL gs = gapsL cs (cs.length - qs.length) 0 128 0 qs ∧ gs.length = qs.length ∧ (∀ g ∈ gs, g < 10 ^ 20) ∧ insOk gs 128 0 (cs.filter fun c => decide (c < 128)) ∧ insL gs 128 0 (cs.filter fun c => decide (c < 128)) = cs := by
  have hlen := ordP_len cs
  have h := ins_main cs hl hc (cs.length - qs.length) qs 0 128 0 ⟨fun p h => hp.mem_iff.mp h, hpw, fun p h => .inl (hp.mem_iff.mpr h)⟩
    (by rw [part_all hp]; have := hp.length_eq; omega) (fun p h => by have := (ordP_mem.mp (hp.mem_iff.mp h)).2; omega) (Nat.zero_le _) (fun _ _ _ => Nat.zero_le _)
  rw [part_all hp] at h
  exact h
theorem wr_big {κ d : Nat} (h : 127 < d) : wr κ d = [d] := by
  unfold wr
  repeat rw [if_neg (by omega)]
theorem wr_len (κ d : Nat) : 1 ≤ (wr κ d).length ∧ (wr κ d).length ≤ 6 := by
  unfold wr
  repeat' split
  all_goals simp
theorem wr_small {κ d : Nat} (h : d < 128) : ∀ x ∈ wr κ d, x < 128 := by
  unfold wr
  repeat' split
  all_goals simp
  all_goals omega
theorem cum_get : ∀ (ps : List (List Nat)) (c : Int) (i : Nat), i ≤ ps.length → (c :: cum c ps).getD i 0 = c + ((ps.take i).flatten.length : Int) - (i : Int)
  | _, c, 0, _ => by simp
  | [], _, _ + 1, h => absurd h (by simp)
  | p :: r, c, i + 1, h => by
    have ih := cum_get r (c + (p.length : Nat) - 1) i (by simpa using h)
    rw [cum]
    rw [List.getD_cons_succ, ih]
    simp only [List.take_succ_cons, List.flatten_cons, List.length_append]
    push_cast
    omega
/-- the new place -/
def npos (κ : Nat) (cs : List Nat) (i : Nat) : Nat := ((cs.take i).flatMap (wr κ)).length
theorem filt_one (κ c d : Nat) (hc : 127 < c) : ((wr κ d).filter fun x => decide (x ≤ c)).length + 1 = (if d ≤ c then 1 else 0) + (wr κ d).length := by
  by_cases h : d < 128
  · rw [List.filter_eq_self.mpr (fun x hx => by have := wr_small h x hx; simp; omega), if_pos (by omega)]; omega
  · rw [wr_big (by omega)]
    by_cases h2 : d ≤ c
    · simp [h2]
    · simp [h2]
theorem filt_all (κ c : Nat) (hc : 127 < c) : ∀ A : List Nat, ((A.flatMap (wr κ)).filter fun x => decide (x ≤ c)).length + A.length = (A.filter fun x => decide (x ≤ c)).length + (A.flatMap (wr κ)).length
  | [] => rfl
  | d :: A => by
    have ih := filt_all κ c hc A
    have h1 := filt_one κ c d hc
    rw [List.flatMap_cons, List.filter_append, List.length_append, List.length_append, List.length_cons, List.filter_cons]
    by_cases h2 : d ≤ c
    · rw [if_pos h2] at h1
      rw [if_pos (by simpa using h2), List.length_cons]; omega
    · rw [if_neg h2] at h1
      rw [if_neg (by simpa using h2)]; omega
theorem npos_take (κ : Nat) (cs : List Nat) (i : Nat) : (cs.flatMap (wr κ)).take (npos κ cs i) = (cs.take i).flatMap (wr κ) := by
  unfold npos
  conv => lhs; rw [← List.take_append_drop i cs, List.flatMap_append]
  simp
theorem npos_ge (κ : Nat) : ∀ (cs : List Nat) (i : Nat), i ≤ cs.length → i ≤ npos κ cs i
  | _, 0, _ => Nat.zero_le _
  | [], _ + 1, h => absurd h (by simp)
  | c :: cs, i + 1, h => by
    have ih := npos_ge κ cs i (by simpa using h)
    have h1 := (wr_len κ c).1
    unfold npos at ih ⊢
    rw [List.take_succ_cons, List.flatMap_cons, List.length_append]
    omega
theorem ahead_npos {κ : Nat} {cs : List Nat} {c i : Nat} (hc : 127 < c) (hi : i ≤ cs.length) : aheadN (cs.flatMap (wr κ)) c (npos κ cs i) + i = aheadN cs c i + npos κ cs i := by
  unfold aheadN
  rw [npos_take]
  have := filt_all κ c hc (cs.take i)
  rw [List.length_take, Nat.min_eq_left hi] at this
  exact this
theorem npos_lt {κ : Nat} {cs : List Nat} {i j : Nat} (hij : i < j) (hj : j ≤ cs.length) : npos κ cs i < npos κ cs j := by
  unfold npos
  have h1 : cs.take (i + 1) = cs.take i ++ [cs[i]] := List.take_succ_eq_append_getElem (by omega)
  have h2 : cs.take j = cs.take (i + 1) ++ (cs.take j).drop (i + 1) := by
    conv => lhs; rw [← List.take_append_drop (i + 1) (cs.take j)]
    rw [List.take_take, Nat.min_eq_left hij]
  have h3 := (wr_len κ cs[i]).1
  rw [h2, h1, List.flatMap_append, List.flatMap_append, List.length_append, List.length_append, List.flatMap_singleton]
  omega
theorem ordP_wr_aux (κ : Nat) : ∀ (l : List Nat) (n m : Nat), ((l.flatMap (wr κ)).zipIdx m).filter (fun p => decide (127 < p.1)) = ((l.zipIdx n).filter (fun p => decide (127 < p.1))).map (fun q => (q.1, m + npos κ l (q.2 - n)))
  | [], _, _ => rfl
  | d :: l, n, m => by
    have ih := ordP_wr_aux κ l (n + 1) (m + (wr κ d).length)
    rw [List.flatMap_cons, List.zipIdx_append, List.filter_append, ih, List.zipIdx_cons, List.filter_cons]
    have hcongr : ((l.zipIdx (n + 1)).filter (fun p => decide (127 < p.1))).map (fun q => (q.1, m + (wr κ d).length + npos κ l (q.2 - (n + 1)))) = ((l.zipIdx (n + 1)).filter (fun p => decide (127 < p.1))).map (fun q => (q.1, m + npos κ (d :: l) (q.2 - n))) := by
      apply List.map_congr_left
      intro q hq
      have h1 := List.le_snd_of_mem_zipIdx (List.mem_filter.mp hq).1
      obtain ⟨j, hj⟩ : ∃ j, q.2 = n + 1 + j := ⟨q.2 - (n + 1), by omega⟩
      rw [hj, show n + 1 + j - (n + 1) = j by omega, show n + 1 + j - n = j + 1 by omega]
      unfold npos
      rw [List.take_succ_cons, List.flatMap_cons, List.length_append, Nat.add_assoc]
    rw [hcongr]
    by_cases h : 127 < d
    · rw [wr_big h, if_pos (by simpa using h), List.map_cons]
      have : npos κ (d :: l) (n - n) = 0 := by rw [Nat.sub_self]; rfl
      rw [this]
      simp [h]
    · have : ((wr κ d).zipIdx m).filter (fun p => decide (127 < p.1)) = [] := by
        rw [List.filter_eq_nil_iff]
        intro p hp
        have := wr_small (κ := κ) (show d < 128 by omega) p.1 (List.fst_mem_of_mem_zipIdx hp)
        simp; omega
      rw [this, if_neg (by simpa using h), List.nil_append]
theorem ordP_wr (κ : Nat) (cs : List Nat) : ordP (cs.flatMap (wr κ)) = (ordP cs).map (fun q => (q.1, npos κ cs q.2)) := by
  unfold ordP
  rw [ordP_wr_aux κ cs 0 0]
  simp
theorem raised_aux {κ : Nat} {cs : List Nat} {al : List Int} {bare last : Nat} (hal : ∀ i, i ≤ cs.length → al.getD i 0 = (npos κ cs i : Int) - (i : Int)) : ∀ (qs : List (Nat × Nat)) (k code behind behind' : Nat) (before : Int), (∀ q ∈ qs, 127 < q.1 ∧ q.2 < cs.length) → (behind' : Int) = (behind : Int) + before →
    raisedL al (last : Int) code before (gapsL cs bare k code behind qs) qs = gapsL (cs.flatMap (wr κ)) (bare + last) k code behind' (qs.map fun q => (q.1, npos κ cs q.2))
  | [], _, _, _, _, _, _, _ => rfl
  | (now, place) :: r, k, code, behind, behind', before, hq, hb => by
    obtain ⟨h1, h2⟩ := hq _ (.head _)
    dsimp only at h1 h2
    have ha := ahead_npos (κ := κ) h1 (Nat.le_of_lt h2)
    have hal' := hal place (Nat.le_of_lt h2)
    rw [gapsL, raisedL, List.map_cons, gapsL]
    dsimp only
    rw [raised_aux hal r (k + 1) now (aheadN cs now place + 1) (aheadN (cs.flatMap (wr κ)) now (npos κ cs place) + 1) (al.getD place 0) (fun q h => hq q (.tail _ h)) (by omega)]
    congr 1
    have e : ((now : Int) - (code : Int)) * ((bare : Int) + (k : Int) + 1) + ((now : Int) - (code : Int)) * (last : Int) = ((now : Int) - (code : Int)) * (((bare + last : Nat) : Int) + (k : Int) + 1) := by
      rw [← Int.mul_add]; congr 1; omega
    omega
theorem raised_law {κ : Nat} {cs : List Nat} {qs : List (Nat × Nat)} (hl : (cs.flatMap (wr κ)).length < 1000) (hp : qs.Perm (ordP cs)) (hpw : qs.Pairwise (fun p q => pkey p < pkey q)) :
    ∃ qs', qs'.Perm (ordP (cs.flatMap (wr κ))) ∧ qs'.Pairwise (fun p q => pkey p < pkey q) ∧
      raisedL (0 :: cum 0 (cs.map (wr κ))) ((0 :: cum 0 (cs.map (wr κ))).getD (cs.map (wr κ)).length 0) 128 0 (gapsL cs (cs.length - qs.length) 0 128 0 qs) qs = gapsL (cs.flatMap (wr κ)) ((cs.flatMap (wr κ)).length - qs'.length) 0 128 0 qs' := by
  have hq : ∀ q ∈ qs, 127 < q.1 ∧ q.2 < cs.length := fun q h => by
    have := ordP_mem.mp (hp.mem_iff.mp h)
    exact ⟨this.2, (List.getElem?_eq_some_iff.mp this.1).1⟩
  have htot : npos κ cs cs.length = (cs.flatMap (wr κ)).length := by unfold npos; rw [List.take_length]
  have hge := npos_ge κ cs cs.length (Nat.le_refl _)
  have hal : ∀ i, i ≤ cs.length → (0 :: cum 0 (cs.map (wr κ))).getD i 0 = (npos κ cs i : Int) - (i : Int) := by
    intro i hi
    rw [cum_get _ _ _ (by simpa using hi)]
    unfold npos
    rw [← List.map_take, ← List.flatMap_def]
    omega
  refine ⟨qs.map fun q => (q.1, npos κ cs q.2), by rw [ordP_wr]; exact hp.map _, ?_, ?_⟩
  · rw [List.pairwise_map]
    refine List.Pairwise.imp_of_mem (fun {a b} ha hb hab => ?_) hpw
    have h1 := hq a ha
    have h2 := hq b hb
    have h3 := npos_lt (κ := κ) h1.2 (Nat.le_refl _)
    simp only [pkey] at hab ⊢
    have hnl := npos_ge κ cs cs.length (Nat.le_refl _)
    by_cases e : a.1 = b.1
    · have := npos_lt (κ := κ) (show a.2 < b.2 by omega) (Nat.le_of_lt h2.2)
      omega
    · omega
  · rw [List.length_map, hal _ (by simp), List.length_map]
    rw [show (npos κ cs cs.length : Int) - (cs.length : Int) = ((npos κ cs cs.length - cs.length : Nat) : Int) by omega]
    rw [raised_aux hal qs 0 128 0 0 0 hq rfl]
    congr 1
    have hql : qs.length ≤ cs.length := by
      rw [hp.length_eq]; unfold ordP; refine Nat.le_trans (List.length_filter_le _ _) ?_; simp
    omega
theorem order_uniq : ∀ {qs qs' : List (Nat × Nat)}, qs.Perm qs' → qs.Pairwise (fun p q => pkey p < pkey q) → qs'.Pairwise (fun p q => pkey p < pkey q) → qs = qs'
  | [], qs', hp, _, _ => (List.nil_perm.mp hp).symm
  | a :: r, [], hp, _, _ => absurd hp.symm (by simp)
  | a :: r, b :: r', hp, h1, h2 => by
    have k1 := List.pairwise_cons.mp h1
    have k2 := List.pairwise_cons.mp h2
    have e : a = b := by
      rcases List.mem_cons.mp (hp.mem_iff.mp (.head _)) with e | e
      · exact e
      · rcases List.mem_cons.mp (hp.mem_iff.mpr (List.mem_cons_self (a := b))) with e' | e'
        · exact e'.symm
        · have := k2.1 _ e; have := k1.1 _ e'; omega
    subst e
    rw [order_uniq (List.perm_cons a |>.mp hp) k1.2 k2.2]
theorem esc_cdata_is (x : List Nat) : esc_cdata x = x.flatMap (wr 0) := by
  unfold esc_cdata rep
  simp only [List.flatMap_assoc]
  congr 1; funext d
  rcases Decidable.em (d = 38) with rfl | h0
  · rfl
  rcases Decidable.em (d = 60) with rfl | h1
  · rfl
  rcases Decidable.em (d = 62) with rfl | h2
  · rfl
  simp [wr, h0, h1, h2]
theorem esc_attrib_is (x : List Nat) : esc_attrib x = x.flatMap (wr 1) := by
  unfold esc_attrib rep
  simp only [List.flatMap_assoc]
  congr 1; funext d
  rcases Decidable.em (d = 38) with rfl | h0
  · rfl
  rcases Decidable.em (d = 60) with rfl | h1
  · rfl
  rcases Decidable.em (d = 62) with rfl | h2
  · rfl
  rcases Decidable.em (d = 34) with rfl | h3
  · rfl
  rcases Decidable.em (d = 13) with rfl | h4
  · rfl
  rcases Decidable.em (d = 10) with rfl | h5
  · rfl
  rcases Decidable.em (d = 9) with rfl | h6
  · rfl
  simp [wr, h0, h1, h2, h3, h4, h5, h6]
theorem esc_html_is (x : List Nat) : esc_html x = x.flatMap (wr 2) := by
  unfold esc_html rep
  simp only [List.flatMap_assoc]
  congr 1; funext d
  rcases Decidable.em (d = 38) with rfl | h0
  · rfl
  rcases Decidable.em (d = 62) with rfl | h1
  · rfl
  rcases Decidable.em (d = 34) with rfl | h2
  · rfl
  simp [wr, h0, h1, h2]
theorem esc_c14n_is (x : List Nat) : esc_c14n x = x.flatMap (wr 3) := by
  unfold esc_c14n rep
  simp only [List.flatMap_assoc]
  congr 1; funext d
  rcases Decidable.em (d = 38) with rfl | h0
  · rfl
  rcases Decidable.em (d = 60) with rfl | h1
  · rfl
  rcases Decidable.em (d = 62) with rfl | h2
  · rfl
  rcases Decidable.em (d = 13) with rfl | h3
  · rfl
  simp [wr, h0, h1, h2, h3]
theorem esc_attrc14n_is (x : List Nat) : esc_attrc14n x = x.flatMap (wr 4) := by
  unfold esc_attrc14n rep
  simp only [List.flatMap_assoc]
  congr 1; funext d
  rcases Decidable.em (d = 38) with rfl | h0
  · rfl
  rcases Decidable.em (d = 60) with rfl | h1
  · rfl
  rcases Decidable.em (d = 34) with rfl | h2
  · rfl
  rcases Decidable.em (d = 9) with rfl | h3
  · rfl
  rcases Decidable.em (d = 10) with rfl | h4
  · rfl
  rcases Decidable.em (d = 13) with rfl | h5
  · rfl
  simp [wr, h0, h1, h2, h3, h4, h5]
theorem low_pos {cs : List Nat} {i : Nat} (hi : i < cs.length) (h : cs[i] < 128) : (cs.take (i + 1)).filter (fun c => decide (c < 128)) = (cs.take i).filter (fun c => decide (c < 128)) ++ [cs[i]] := by
  rw [List.take_succ_eq_append_getElem hi, List.filter_append]; simp [h]
theorem low_neg {cs : List Nat} {i : Nat} (hi : i < cs.length) (h : ¬ cs[i] < 128) : (cs.take (i + 1)).filter (fun c => decide (c < 128)) = (cs.take i).filter (fun c => decide (c < 128)) := by
  rw [List.take_succ_eq_append_getElem hi, List.filter_append]; simp [h]
set_option maxHeartbeats 8000000 in
theorem read_spec {w : World} {A : Around} {s : Shared} {h : Heap} {tk : Nat} {mean : ExcName → Option Value} {mg mb : Str → Option Value} {n : Nat} {a1 a2 : Addr} {vs vg : List Value} {e1 e2 : Nat} {cs gs : List Nat} {Q E : Value → Shared → Prop}
   (X : (hd.heap_39 w.params).In h) (T : TopM mean mg mb h) (R : Room (n + 5) A) (h1 : h.get? a1 = some (lobj vs e1)) (h2 : h.get? a2 = some (lobj vg e2)) (hs : StrsAre vs (ones cs)) (hi : IntsAre vg (natL gs)) (hlen : cs.length < 1000)
   (hgs : gs.length ≤ 1000) (hg : ∀ g ∈ gs, g < 10 ^ 20) (hok : insOk gs 128 0 (cs.filter fun c => decide (c < 128)))
   (k : ∀ t h' tk, Keeps h h' → Q (.str ⟨(insL gs 128 0 (cs.filter fun c => decide (c < 128))).toArray⟩ t) (St s h' tk)) :
   wpC (model Pr w) A (call (.ref 148) [.ref a1, .ref a2]) Q E (St s h tk) := by
  refine enterC [("signs", .ref a1), ("gaps", .ref a2)] X T R (by k_is) (by k_is) rfl (locs rfl) rfl ?_ rfl rfl rfl (by decide)
  intro L h₁ tk₁ S R'
  have hvl := ones_len hs
  refine c_st ?_
  kspl_open mm
  refine r_comp (cl := []) ?_ rfl rfl (by decide) (fun _ => rfl)
  kspl_open mm
  refine it_list R'.hh (S.keep _ _ h1) ?_
  intro I oI h3 StI K
  have X2 := X.keeps S.keep
  have T2 := Top.keeps T S.keep
  refine comp_val K S (by omega) (by decide) rfl rfl (fun i acc mu => mu = [] ∧ acc.length ≤ i ∧ IntsAre acc (natL ((cs.take i).filter fun c => decide (c < 128)))) ⟨rfl, Nat.le_refl _, .nil⟩ ?_ (fun i acc mu hJ => hJ.2.1) ?_
  · rintro C i v acc mu l its h4 tk4 hi' hv ⟨rfl, hJ2, hJ3⟩ S4
    rw [hvl] at hi'
    obtain ⟨tc, hvi⟩ := ones_at hs (i := i) (c := cs[i]) (by simp [hi'])
    rw [hv] at hvi
    cases hvi
    refine r_ifs1 ?_
    kspl_open mm
    · refine r_compEnd S4 ⟨rfl, by simp only [List.length_append, List.length_cons, List.length_nil]; omega, ?_⟩
      rw [low_pos hi' (by omega)]
      unfold natL at hJ3 ⊢
      rw [List.map_append]
      exact IntsAre.snoc hJ3
    · refine r_compEnd S4 ⟨rfl, by omega, ?_⟩
      rw [low_neg hi' (by omega)]
      exact hJ3
  · rintro D acc ep2 mu h4 tk4 ⟨rfl, hJ2, hJ3⟩ S4
    rw [hvl, List.take_length] at hJ3
    have hll : (cs.filter fun c => decide (c < 128)).length ≤ cs.length := List.length_filter_le _ _
    have h128 : ∀ c ∈ cs.filter (fun c => decide (c < 128)), c < 128 := fun c hc => by simpa using (List.mem_filter.mp hc).2
    generalize cs.filter (fun c => decide (c < 128)) = l at *
    kspl_open mm
    refine o_bytesList S4 (S4.get (.head _)) hJ3 (fun c hc => by have := h128 c hc; omega) (by omega) R'.hh ?_
    intro t5 h5 tk5 S5
    kspl_open mm
    rename Sx _ _ _ _ _ => S6
    refine c_cons (c_assign (c_callK (f := 42) (K := hd.heap_39 w.params) (by k_is) ?_ rfl ⟨_, _, rfl⟩ rfl) rfl)
    kspl_open mm
    refine o_lenB (by rw [List.length_map]; omega) ?_
    intro t7 tk7
    rw [List.length_map]
    kspl_open mm
    refine genints_spec (n := n + 1) (X.keeps S6.keep) (Top.keeps T S6.keep) (R'.mono (Nat.le_refl _)) (S6.keep _ _ h2) hi hg hgs (by omega) ?_
    intro t8 h8 tk8 hk8
    have S8 := S6.grow hk8
    rw [show octs (encAll l.length 0 72 gs) = (octD (encAll l.length 0 72 gs)).toArray from rfl]
    kspl_open mm
    rename Sx _ _ _ _ _ => S9
    refine c_st ?_
    kspl_open mm
    rw [Bool.not_true]
    kspl_open mm
    refine o_lenB (by rw [List.length_map]; omega) ?_
    intro t10 tk10
    rw [List.length_map]
    kspl_open mm
    refine numbers_spec (n := n) (X.keeps S9.keep) (Top.keeps T S9.keep) (R'.mono (by omega)) hgs hg (by omega) ?_
    intro D2 ep3 out h11 tk11 N11 hout
    have S11 := S9.got N11
    kspl_open mm
    refine o_neLI R' (S11.get (.head _)) (S11.keep _ _ h2) hout hi ?_
    rw [decide_eq_true rfl, Bool.not_true]
    kspl_open mm
    refine c_st ?_
    kspl_open mm
    by_cases hl0 : l = []
    · subst hl0
      refine c_ff ?_
      kspl_open mm
      refine decode_spec0 (n := n) (X.keeps S11.keep) (Top.keeps T S11.keep) R' hgs hg hok ?_
      intro t12 h12 tk12 hk12
      have S12 := S11.grow hk12
      kspl_open mm
      exact k _ _ _ S12.keep
    · rw [show (List.map Nat.toUInt8 l != []) = true by simpa using hl0]
      kspl_open mm
      refine o_addB (y := [45]) (by rw [List.length_map]; simp only [List.length_cons, List.length_nil]; omega) ?_
      intro t12 tk12
      kspl_open mm
      have hel := encAll_len l.length gs 0 72 hg
      refine o_addB (by simp only [List.length_append, List.length_map, List.length_cons, List.length_nil, octD]; omega) ?_
      intro t13 tk13
      rw [List.append_assoc, List.singleton_append]
      kspl_open mm
      refine decode_spec1 (n := n) (X.keeps S11.keep) (Top.keeps T S11.keep) R' (by omega) hl0 h128 hgs hg hok ?_
      intro t14 h14 tk14 hk14
      have S14 := S11.grow hk14
      kspl_open mm
      exact k _ _ _ S14.keep
def numsL (ns : List Int) : List Int := if 2 < ns.length then ns.take 10 else ns ++ [499, 0, 2]
theorem numsL_len (ns : List Int) : (numsL ns).length ≤ 10 := by
  unfold numsL
  split
  · rw [List.length_take]; omega
  · rw [List.length_append]; simp; omega
theorem signC_le (x : Int) : signC x ≤ 1114111 := by
  unfold signC
  repeat' split
  · have : ∀ n, n < 8 → nick.getD n 0 ≤ 1114111 := by decide
    exact this _ (by omega)
  all_goals omega
theorem empty_str : Str.ofString "" = (⟨#[]⟩ : Str) := by decide +kernel
theorem strs_snoc {vs : List Value} {ys : List Str} {y : Str} {t : Tok} (h : StrsAre vs ys) : StrsAre (vs ++ [.str y t]) (ys ++ [y]) := by
  induction h with
  | nil => exact .cons _ _ .nil
  | cons z u _ ih => exact .cons _ _ ih
theorem o_join1 {prog : Program} {w : World} {A : Around} {E : Value → Shared → Prop} {s : Shared} {h : Heap} {tk : Nat} {t : Tok} {Q : Value → Shared → Prop} {a : Addr} {vs : List Value} {cs : List Nat} {ep : Nat} (ha : h.get? a = some (lobj vs ep)) (hs : StrsAre vs (ones cs)) (hz : cs.length ≤ 100000)
    (hq : ∀ t tk', Q (.str ⟨cs.toArray⟩ t) (St s h tk')) : wpAny (model prog w) A (call (.builtin "str.join") [.str (Str.ofString "") t, .ref a]) Q E (St s h tk) := by
  refine o_join (ps := cs.map fun c => [c]) empty_str ha ?_ (by rw [ones_flat]; exact hz) ?_
  · rw [List.map_map]; exact hs
  · rw [ones_flat]; exact hq
theorem wr_all_len (κ : Nat) : ∀ cs : List Nat, (cs.flatMap (wr κ)).length ≤ 6 * cs.length
  | [] => Nat.le_refl _
  | c :: r => by
    have h1 := (wr_len κ c).2
    have h2 := wr_all_len κ r
    rw [List.flatMap_cons, List.length_append, List.length_cons]; omega
theorem wr_all_le {κ : Nat} {cs : List Nat} (h : ∀ c ∈ cs, c ≤ 1114111) : ∀ c ∈ cs.flatMap (wr κ), c ≤ 1114111 := by
  intro c hc
  obtain ⟨d, hd, hc⟩ := List.mem_flatMap.mp hc
  by_cases h1 : d < 128
  · have := wr_small h1 c hc; omega
  · rw [wr_big (by omega)] at hc
    rw [List.mem_singleton.mp hc]; exact h d hd
theorem ordP_le (cs : List Nat) : (ordP cs).length ≤ cs.length := by
  unfold ordP
  refine Nat.le_trans (List.length_filter_le _ _) ?_
  simp
set_option maxHeartbeats 8000000 in
theorem law_spec {w : World} {A : Around} {s : Shared} {h : Heap} {tk : Nat} {mean : ExcName → Option Value} {mg mb : Str → Option Value} {n : Nat} {a : Addr} {vs : List Value} {ns : List Int} {Q E : Value → Shared → Prop}
   (X : (hd.heap_39 w.params).In h) (T : TopM mean mg mb h) (R : Room (n + 6) A) (ha : h.IsList a vs.toArray) (hi : IntsAre vs ns) (hlen : ns.length ≤ 63)
   (k : ∀ L m h' tk, Fr h L h' m → Q (.bool true) (St s h' tk)) :
   wpC (model Pr w) A (call (.ref 153) [.ref a]) Q E (St s h tk) := by
  refine enterKC [("script", .ref a)] [("script", .ref a)] ["kind"] [none] X T R (by k_is) (by k_is) rfl ?_ ?_ ?_ ?_ rfl rfl rfl
  · intro L x hx
    rw [List.mem_singleton.mp hx]
    exact .inl rfl
  · intro L x v e
    rw [List.lookup_cons] at e
    by_cases hx : (x == "script") = true
    · rw [hx] at e; cases e; rw [eq_of_beq hx]; rfl
    · have hx' : (x == "script") = false := by simpa using hx
      rw [hx'] at e; cases e
  · intro L i x e
    match i, e with
    | 0, e => cases e; exact ⟨_, rfl, rfl, rfl⟩
  intro L h₁ tk₁ ob hob S R'
  have hc0 : (ob 0).data = .cell none := hob 0 (by decide)
  have hvl : vs.length = ns.length := hi.length
  have haL : ∀ {l mu h'}, Sx h L l mu h' → h'.IsList a vs.toArray := fun S' => let ⟨o, e1, e2⟩ := ha; ⟨o, S'.keep _ _ e1, e2⟩
  replace S : Sx h L [("script", .ref a)] [(L + 1, ob 0)] h₁ := S
  refine c_st ?_
  refine wpAny_Assign_Name ?_ (by exact rfl)
  refine wpAny_mono (Q := fun v s' => ∃ D zs h' tk', v = .ref D ∧ s' = St s h' tk' ∧ Sx h L [("script", .ref a)] ((D, lobj zs 0) :: [(L + 1, ob 0)]) h' ∧ IntsAre zs (numsL ns)) (E := fun _ _ => False) ?_ ?_ (fun _ _ e => e)
  · kspl_open mm
    refine o_lenLI (haL S) (by omega) ?_
    intro t2 tk2
    rw [hvl]
    kspl_open mm
    · refine o_sliceL S (haL S) hi (by decide) (by omega) ?_ (fun _ => rfl) (fun _ => rfl)
      intro D zs h' tk' S' hz
      refine ⟨D, zs, h', tk', rfl, rfl, S', ?_⟩
      rw [numsL, if_pos (by omega)]; exact hz
    · rename Sx _ _ _ _ _ => S3
      refine o_addL S3 (haL S3) (isList_lobj (S3.get (.head _))) hi (.cons _ _ (.cons _ _ (.cons _ _ .nil))) (by simp only [List.length_cons, List.length_nil]; omega) ?_
      intro D zs h' tk' S' hz
      refine ⟨D, zs, h', tk', rfl, rfl, S'.drop (.cons_cons _ (.cons _ (List.Sublist.refl _))), ?_⟩
      rw [numsL, if_neg (by omega)]; exact hz
  rintro v s' ⟨D, zs, h2, tk2, rfl, rfl, S2, hz⟩
  have hnl := numsL_len ns
  have hzl : zs.length = (numsL ns).length := hz.length
  kspl_open mm
  rename Sx _ _ _ _ _ => S4
  refine c_st (r_compAssign (cl := []) ?_ (by exact rfl) rfl rfl (by decide) (fun _ => rfl))
  kspl_open mm
  refine it_list R'.hh (S4.get (.head _)) ?_
  intro I oI h5 StI K
  have X2 := X.keeps S4.keep
  have T2 := Top.keeps T S4.keep
  refine comp_set K S4 (by omega) (by decide) rfl rfl rfl rfl rfl (fun i acc mu => mu = [] ∧ acc.length = i ∧ StrsAre acc (ones (((numsL ns).take i).map signC))) ⟨rfl, rfl, .nil⟩ ?_ (fun i acc mu hJ => Nat.le_of_eq hJ.2.1) ?_
  · rintro C i v acc mu l its h6 tk6 hi' hv ⟨rfl, hJ2, hJ3⟩ S6
    rw [hzl] at hi'
    obtain ⟨x, tx, rfl, hx⟩ := IntsAre.at hz i v hv
    refine r_ifs0 ?_
    kspl_open mm
    refine sign_spec (n := n) (X2.keeps S6.keep) (Top.keeps T2 S6.keep) (R'.mono (by omega)) ?_
    intro t7 h7 tk7 hk7
    have S7 := S6.grow hk7
    kspl_open mm
    refine r_compEnd S7 ⟨rfl, by simp [hJ2], ?_⟩
    obtain ⟨hlt, hge⟩ := List.getElem?_eq_some_iff.mp hx
    rw [List.take_succ_eq_append_getElem hlt, List.map_append, hge]
    unfold ones at hJ3 ⊢
    rw [List.map_append]
    exact strs_snoc hJ3
  rintro D2 acc ep2 mu h6 tk6 ⟨rfl, hJ2, hJ3⟩ S6
  rw [hzl, List.take_length] at hJ3
  have hcl : ((numsL ns).map signC).length ≤ 10 := by rw [List.length_map]; exact hnl
  have hcc : ∀ c ∈ (numsL ns).map signC, c ≤ 1114111 := fun c hc => by
    obtain ⟨x, _, rfl⟩ := List.mem_map.mp hc
    exact signC_le x
  generalize (numsL ns).map signC = cs at hJ3 hcl hcc
  clear hJ2
  kspl_open mm
  refine c_st ?_
  kspl_open mm
  refine o_join1 (S6.get (.head _)) hJ3 (by omega) ?_
  intro t7 tk7
  kspl_open mm
  rename Sx _ _ _ _ _ => S8
  refine c_st ?_
  kspl_open mm
  refine gaps_spec (n := n) (X.keeps S8.keep) (Top.keeps T S8.keep) (R'.mono (by omega)) (S8.get (.head _)) hJ3 (by omega) ?_ ?_
  · unfold ordP
    refine Nat.lt_of_le_of_lt (List.length_filter_le _ _) ?_
    simp; omega
  intro D3 ep3 out qs h9 tk9 N9 hqp hqw hout
  have S9 := S8.got N9
  kspl_open mm
  rename Sx _ _ _ _ _ => S10
  obtain ⟨gs, hg1, hg2, hg3, hg4, hg5⟩ := text_law (by omega) hcc hqp hqw
  have hql : qs.length ≤ 10 := by
    rw [hqp.length_eq]; unfold ordP
    refine Nat.le_trans (List.length_filter_le _ _) ?_
    simpa using hcl
  refine c_cons (c_if (c_isTrueCmp (c_callK (f := 148) (K := hd.heap_39 w.params) (by k_is) ?_ rfl ⟨_, _, rfl⟩ rfl) rfl))
  kspl_open mm
  refine read_spec (n := n) (X.keeps S10.keep) (Top.keeps T S10.keep) R' (S10.get (.tail _ (.head _))) (S10.get (.head _)) hJ3 (hg1 ▸ hout) (by omega) (by omega) hg3 hg4 ?_
  intro t11 h11 tk11 hk11
  have S11 := S10.grow hk11
  rw [hg5]
  kspl_open mm
  rw [bne_self_eq_false]
  kspl_open mm
  refine c_st ?_
  kspl_open mm
  rename Sx _ _ _ _ _ => S12
  refine c_cons (c_for ?_ (fun _ => rfl))
  kspl_open mm
  refine o_sum R'.hh S12 (haL S12) hi ?_
  intro t13 h13 tk13 S13
  kspl_open mm
  refine o_sum R'.hh S13 (haL S13) hi ?_
  intro t14 h14 tk14 S14
  have ek1 : ns.sum.fmod 5 = ((ns.sum % 5).toNat : Int) := by rw [fmodE _ (by decide)]; omega
  have ek2 : (ns.sum.fdiv 5).fmod 5 = ((ns.sum / 5 % 5).toNat : Int) := by rw [fmodE _ (by decide), fdivE _ (by decide)]; omega
  have hk1 : (ns.sum % 5).toNat < 5 := by omega
  have hk2 : (ns.sum / 5 % 5).toNat < 5 := by omega
  rw [ek1]
  kspl_open mm
  rename_i d5 h15 S15
  rw [ek2] at S15
  generalize (ns.sum % 5).toNat = κ1 at hk1 S15
  generalize (ns.sum / 5 % 5).toNat = κ2 at hk2 S15
  obtain ⟨wt, u1, u2, S16⟩ : ∃ wt u1 u2, Sx h L ([("text", .str ⟨cs.toArray⟩ t7), ("gaps", .ref D3), ("signs", .ref D2), ("writers", .ref wt), ("script", .ref a)] : List (Str × Value)) [(D2, lobj acc ep2), (D3, lobj out ep3), (d5, lobj [.int (κ1 : Nat) u1, .int (κ2 : Nat) u2] 0), (wt, lobj [.ref 77, .ref 84, .ref 91, .ref 98, .ref 105] 0), (L + 1, ob 0)] h15 :=
    ⟨_, _, _, (((S15.sub (by kspl_open mmsub)).drop (.cons_cons _ (.cons_cons _ (.cons_cons _ (.cons_cons _ (.cons _ (List.Sublist.refl _))))))).perm (((List.perm_append_comm (l₁ := [_, _]) (l₂ := [_, _])).append_right [_]).trans (.cons _ (.cons _ (.swap _ _ _)))))⟩
  clear S15 S14 S13 S12 S11 S10 S9 S8 S6 S4
  refine it_list R'.hh (S16.get (.tail _ (.tail _ (.head _)))) ?_
  intro I oI h17 StI K
  refine c_forIt K S16 (fun i l mu => ∃ (cs : List Nat) (qs : List (Nat × Nat)) (sg gp : Addr) (vsg vgp : List Value) (e1 e2 : Nat) (tt : Tok) (o1 : Obj) (cv : Option Value), l = ([("text", .str ⟨cs.toArray⟩ tt), ("gaps", .ref gp), ("signs", .ref sg), ("writers", .ref wt), ("script", .ref a)] : List (Str × Value)) ∧ mu = [(sg, lobj vsg e1), (gp, lobj vgp e2), (d5, lobj [.int (κ1 : Nat) u1, .int (κ2 : Nat) u2] 0), (wt, lobj [.ref 77, .ref 84, .ref 91, .ref 98, .ref 105] 0), (L + 1, o1)] ∧ o1.data = .cell cv ∧ StrsAre vsg (ones cs) ∧ qs.Perm (ordP cs) ∧ qs.Pairwise (fun p q => pkey p < pkey q) ∧ IntsAre vgp (gapsL cs (cs.length - qs.length) 0 128 0 qs) ∧ cs.length ≤ 10 * 6 ^ i ∧ (∀ c ∈ cs, c ≤ 1114111))
    ⟨cs, qs, D2, D3, acc, out, ep2, ep3, t7, ob 0, none, rfl, rfl, hc0, hJ3, hqp, hqw, hout, by omega, hcc⟩
    (fun b hb => ⟨lobj [.int (κ1 : Nat) u1, .int (κ2 : Nat) u2] 0, fun i l' mu' h' hJ S' => by obtain ⟨_, _, _, _, _, _, _, _, _, _, _, rfl, rfl, _⟩ := hJ; rw [List.mem_singleton.mp hb]; exact S'.get (.tail _ (.tail _ (.head _)))⟩) (fun i v h tk Q E hP hS hq => wpAny_pure hq) ?_ ?_
  · clear hg1 hg2 hg3 hg4 hg5 hql hJ3 hqp hqw hout hcl hcc N9 hk11 X2 T2 S16
    rintro i v l' mu' oI' h18 tk18 hi2 hv ⟨cs, qs, sg, gp, vsg, vgp, e1, e2, tt, o1, cv, rfl, rfl, ho1, hsg, hqp, hqw, hgp, hcl, hcc⟩ S18 Q' hT
    have hcl0 := hcl
    replace hcl : cs.length ≤ 60 := by
      have : (6 : Nat) ^ i ≤ 6 ^ 1 := Nat.pow_le_pow_right (by decide) (by simp at hi2; omega)
      omega
    obtain ⟨κ, tκ, hκ, rfl⟩ : ∃ (κ : Nat) (tκ : Tok), κ < 5 ∧ v = .int (κ : Nat) tκ := by
      match i, hv with
      | 0, e => cases e; exact ⟨κ1, u1, hk1, rfl⟩
      | 1, e => cases e; exact ⟨κ2, u2, hk2, rfl⟩
      | i + 2, e => simp at e
    kspl_open mm
    refine r_storeCellAt [(I, oI'), (sg, lobj vsg e1), (gp, lobj vgp e2), (d5, lobj [.int (κ1 : Nat) u1, .int (κ2 : Nat) u2] 0), (wt, lobj [.ref 77, .ref 84, .ref 91, .ref 98, .ref 105] 0)] S18 ho1 rfl rfl rfl ?_
    intro o2 h19 tk19 ho2 S19
    replace S19 : Sx h L _ [(I, oI'), (sg, lobj vsg e1), (gp, lobj vgp e2), (d5, lobj [.int (κ1 : Nat) u1, .int (κ2 : Nat) u2] 0), (wt, lobj [.ref 77, .ref 84, .ref 91, .ref 98, .ref 105] 0), (L + 1, o2)] h19 := S19
    refine c_st (r_compAssign (cl := [("kind", L + 1)]) ?_ (by exact rfl) rfl rfl (by decide) (fun _ => rfl))
    kspl_open mm
    refine it_list R'.hh (S19.get (.tail _ (.head _))) ?_
    intro I2 oI2 h20 StI2 K2
    have X2 := X.keeps S19.keep
    have T2 := Top.keeps T S19.keep
    have hcell : CellAt _ (L + 1) (.int (κ : Nat) tκ) := ⟨o2, S19.get (.tail _ (.tail _ (.tail _ (.tail _ (.tail _ (.head _)))))), ho2⟩
    have hsl := ones_len hsg
    refine comp_set K2 S19 (by omega) (by decide) rfl rfl rfl rfl rfl (fun j acc mu => mu = [] ∧ acc.length = j ∧ StrsAre acc (txts ((cs.take j).map (wr κ)))) ⟨rfl, rfl, .nil⟩ ?_ (fun i acc mu hJ => Nat.le_of_eq hJ.2.1) ?_
    · rintro C j v acc mu l its h21 tk21 hj hv2 ⟨rfl, hJ2, hJ3⟩ S21
      rw [hsl] at hj
      obtain ⟨tc, hvi⟩ := ones_at hsg (i := j) (c := cs[j]) (by simp [hj])
      rw [hv2] at hvi
      cases hvi
      refine r_ifs0 ?_
      kspl_open mm
      refine written_spec (n := n) (X2.keeps S21.keep) (Top.keeps T2 S21.keep) (R'.mono (by omega)) hκ ?_
      intro t22 h22 tk22 hk22
      have S22 := S21.grow hk22
      kspl_open mm
      refine r_compEnd S22 ⟨rfl, by simp [hJ2], ?_⟩
      rw [List.take_succ_eq_append_getElem hj, List.map_append]
      unfold txts at hJ3 ⊢
      rw [List.map_append]
      exact strs_snoc hJ3
    rintro D4 pcs ep4 mu h21 tk21 ⟨rfl, hJ2, hJ3⟩ S21
    rw [hsl, List.take_length] at hJ3
    have hlen' := wr_all_len κ cs
    have hle' := wr_all_le (κ := κ) hcc
    have hord := ordP_le cs
    kspl_open mm
    refine c_st ?_
    kspl_open mm
    refine order_spec (n := n) (X.keeps S21.keep) (Top.keeps T S21.keep) (R'.mono (by omega)) (S21.get (.tail _ (.tail _ (.head _)))) hsg (by omega) (by omega) ?_
    intro D6 ep6 oo qs2 mu2 h22 tk22 N22 hP22 hqp2 hqw2
    have S22 := S21.got N22
    obtain rfl : qs2 = qs := order_uniq (hqp2.trans hqp.symm) hqw2 hqw
    have hql := hqp.length_eq
    have hglen : ∀ (k c b : Nat) (q : List (Nat × Nat)), (gapsL cs (cs.length - qs2.length) k c b q).length = q.length := by
      intro k c b q
      induction q generalizing k c b with
      | nil => rfl
      | cons p r ih => obtain ⟨x, y⟩ := p; rw [gapsL, List.length_cons, ih, List.length_cons]
    kspl_open mm
    refine raised_spec (n := n) (X.keeps S22.keep) (Top.keeps T S22.keep) (R'.mono (by omega)) (S22.get (List.mem_append_right _ (.tail _ (.tail _ (.tail _ (.head _)))))) (S22.get (.head _)) (S22.get (List.mem_append_right _ (.head _))) hgp
      ⟨hP22.1, fun i p e => let ⟨b, t, u, k1, k2⟩ := hP22.2 i p e; ⟨b, t, u, k1, S22.get (List.mem_append_left _ (.tail _ k2))⟩⟩ hJ3 (by rw [List.length_map]; omega) ?_ (by omega) (hglen _ _ _ _) ?_ ?_
    · intro p hp
      obtain ⟨c, _, rfl⟩ := List.mem_map.mp hp
      have := (wr_len κ c).2; omega
    · intro q hq
      have hq2 := hqp.mem_iff.mp hq
      have hq3 := ordP_mem.mp hq2
      rw [List.length_map]
      exact ⟨hcc _ (List.mem_of_getElem? hq3.1), ordP_lt hq2⟩
    intro D7 ep7 ro h23 tk23 N23 hro
    have S23 := (S22.got N23).drop (mu' := (D7, lobj ro ep7) :: (D4, lobj pcs ep4) :: [(I, oI'), (sg, lobj vsg e1), (gp, lobj vgp e2), (d5, lobj [.int (κ1 : Nat) u1, .int (κ2 : Nat) u2] 0), (wt, lobj [.ref 77, .ref 84, .ref 91, .ref 98, .ref 105] 0), (L + 1, o2)]) (.cons_cons _ (List.sublist_append_right _ _))
    obtain ⟨qs', hqp', hqw', hre⟩ := raised_law (κ := κ) (by omega) hqp hqw
    rw [hre] at hro
    kspl_open mm
    rename Sx _ _ _ _ _ => S24
    refine c_st ?_
    kspl_open mm
    refine o_join (ps := cs.map (wr κ)) empty_str (S24.get (.tail _ (.head _))) hJ3 (by rw [← List.flatMap_def]; omega) ?_
    intro t25 tk25
    rw [← List.flatMap_def]
    kspl_open mm
    generalize hcs' : cs.flatMap (wr κ) = cs' at *
    refine o_listS R'.hh S24 (by omega) ?_
    intro D8 zs8 ep8 h26 tk26 S26 hz8
    kspl_open mm
    rename_i h27 tk27 S27
    refine c_st ?_
    refine wpAny_Assign_Name ?_ (by exact rfl)
    refine wpAny_mono (Q := fun v s' => ∃ t h' tk', v = .str ⟨cs'.toArray⟩ t ∧ s' = St s h' tk' ∧ Keeps h27 h') (E := fun _ _ => False) ?_ ?_ (fun _ _ e => e)
    · kspl_open mm
      have hcs2 : cs.length ≤ 80 := by omega
      have hwm := S27.get (a := wt) (.tail _ (.tail _ (.tail _ (.tail _ (.tail _ (.tail _ (.tail _ (.head _))))))))
      have h5 : κ = 0 ∨ κ = 1 ∨ κ = 2 ∨ κ = 3 ∨ κ = 4 := by omega
      rcases h5 with rfl | rfl | rfl | rfl | rfl
      · refine r_itemL hwm rfl rfl (by decide) ?_ (fun _ => rfl) (fun _ => rfl)
        kspl_open mm
        refine cdata_spec (n := n) (X.keeps S27.keep) (Top.keeps T S27.keep) (R'.mono (by omega)) hcs2 ?_
        intro t28 h28 tk28 hk28
        rw [esc_cdata_is, hcs']
        exact ⟨_, _, _, rfl, rfl, hk28⟩
      · refine r_itemL hwm rfl rfl (by decide) ?_ (fun _ => rfl) (fun _ => rfl)
        kspl_open mm
        refine attrib_spec (n := n) (X.keeps S27.keep) (Top.keeps T S27.keep) (R'.mono (by omega)) hcs2 ?_
        intro t28 h28 tk28 hk28
        rw [esc_attrib_is, hcs']
        exact ⟨_, _, _, rfl, rfl, hk28⟩
      · refine r_itemL hwm rfl rfl (by decide) ?_ (fun _ => rfl) (fun _ => rfl)
        kspl_open mm
        refine html_spec (n := n) (X.keeps S27.keep) (Top.keeps T S27.keep) (R'.mono (by omega)) hcs2 ?_
        intro t28 h28 tk28 hk28
        rw [esc_html_is, hcs']
        exact ⟨_, _, _, rfl, rfl, hk28⟩
      · refine r_itemL hwm rfl rfl (by decide) ?_ (fun _ => rfl) (fun _ => rfl)
        kspl_open mm
        refine c14n_spec (n := n) (X.keeps S27.keep) (Top.keeps T S27.keep) (R'.mono (by omega)) hcs2 ?_
        intro t28 h28 tk28 hk28
        rw [esc_c14n_is, hcs']
        exact ⟨_, _, _, rfl, rfl, hk28⟩
      · refine r_itemL hwm rfl rfl (by decide) ?_ (fun _ => rfl) (fun _ => rfl)
        kspl_open mm
        refine attrc14n_spec (n := n) (X.keeps S27.keep) (Top.keeps T S27.keep) (R'.mono (by omega)) hcs2 ?_
        intro t28 h28 tk28 hk28
        rw [esc_attrc14n_is, hcs']
        exact ⟨_, _, _, rfl, rfl, hk28⟩
    rintro v s' ⟨t28, h28, tk28, rfl, rfl, hk28⟩
    have S28 := S27.grow hk28
    kspl_open mm
    rename Sx _ _ _ _ _ => S29
    obtain ⟨gs, hg1, hg2, hg3, hg4, hg5⟩ := text_law (by omega) hle' hqp' hqw'
    have hql' := hqp'.length_eq
    have hord' := ordP_le cs'
    refine c_cons (c_if (c_isTrueOr (c_or (wpC_any ?_))))
    kspl_open mm
    refine o_join1 (S29.get (.head _)) hz8 (by omega) ?_
    intro t30 tk30
    kspl_open mm
    rw [bne_self_eq_false]
    kspl_open mm
    refine c_or (c_isTrueCmp (c_callK (f := 148) (K := hd.heap_39 w.params) (by k_is) ?_ rfl ⟨_, _, rfl⟩ rfl) rfl)
    kspl_open mm
    refine read_spec (n := n) (X.keeps S29.keep) (Top.keeps T S29.keep) R' (S29.get (.head _)) (S29.get (.tail _ (.head _))) hz8 (hg1 ▸ hro) (by omega) (by omega) hg3 hg4 ?_
    intro t31 h31 tk31 hk31
    have S31 := S29.grow hk31
    rw [hg5]
    kspl_open mm
    rw [bne_self_eq_false]
    kspl_open mm
    refine wpC_any (wpAny_allTrue_Or_nil ?_)
    kspl_open mm
    refine hT (l := ([("text", .str ⟨cs'.toArray⟩ t28), ("gaps", .ref D7), ("signs", .ref D8), ("writers", .ref wt), ("script", .ref a)] : List (Str × Value))) (mu := [(D8, lobj zs8 ep8), (D7, lobj ro ep7), (d5, lobj [.int (κ1 : Nat) u1, .int (κ2 : Nat) u2] 0), (wt, lobj [.ref 77, .ref 84, .ref 91, .ref 98, .ref 105] 0), (L + 1, o2)]) (((S31.sub (by kspl_open mmsub)).drop (.cons_cons _ (.cons_cons _ (.cons _ (.cons_cons _ (.cons _ (.cons _ (List.Sublist.refl _)))))))).perm (.cons _ (.cons _ perm1)))
      ⟨cs', qs', D8, D7, zs8, ro, ep8, ep7, t28, o2, _, rfl, rfl, ho2, hz8, hqp', hqw', hro, ?_, hle'⟩
    rw [Nat.pow_succ]; omega
  · rintro l' mu' h18 tk18 ⟨cs, qs, sg, gp, vsg, vgp, e1, e2, tt, o1, cv, rfl, rfl, ho1, hsg, hqp, hqw, hgp, hcl, hcc⟩ S18
    kspl_open mm
    refine c_st ?_
    kspl_open mm
    obtain ⟨m, F, _⟩ := S18.fr
    exact k _ _ _ _ F
theorem room_caller : Room 6 callerA := ⟨rfl, by decide, by decide⟩
set_option maxHeartbeats 8000000 in
theorem law_holds : PySem.Challenge.rw_nq0131_01.Holds := hd (by
  intro w s₀ s₁ mg mb G Y fa o pm cd doc dV kV ho hdd hcd hD hmg hg args vals as hpre hlay hrd hwl hlo
  have KX := kIn_of Y
  refine Ground.open G ?_
  intro T B D TE TW
  have hfa : mg "law" = some (.ref 153) := mg_of KX T.g (by k_is)
  have e : fa = 153 := by
    have h2 : mg "law" = some (.ref fa) := hmg
    rw [hfa] at h2
    injection h2 with h2
    injection h2 with h2
    exact h2.symm
  subst e
  wrow_args hpre hlay hrd hwl hlo
  rename PySem.Heap.IsList _ _ _ => hL
  rename IntsAre _ _ => hI
  rename ¬ _ => hc
  refine law_spec (s := s₁) (h := s₁.heap) (tk := s₁.toks) (n := 0) KX T room_caller hL hI (by omega) ?_
  intro L m h' tk F
  refine GoodW.toG (goodW_bool F hg ?_ ?_ rfl)
  · intro cls; rfl
  · first | wrow_post | kc_post)
end Mine
end
theorem PySem.Challenge.cw_nq0131_01_holds : PySem.Challenge.rw_nq0131_01.Holds :=
  Mine.law_holds
